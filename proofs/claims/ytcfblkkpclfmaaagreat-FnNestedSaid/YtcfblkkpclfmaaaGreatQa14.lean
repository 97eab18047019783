/- Part 14 of the proof of FnRead (End, Fin, Shared). No condition is laid on the statement. -/
import Derived.Test.YtcfblkkpclfmaaaGreatQa13
import Derived.Maps.OwnSet
set_option linter.unusedVariables false
set_option linter.unusedSimpArgs false
set_option maxRecDepth 100000
set_option maxHeartbeats 16000000
namespace Go.Proofs.YtcfblkkpclfmaaaGreat
open Go.RowKit
theorem EndObject_calls(b:Nat)(F:List Nat)(st:BSt)(w:World)(h:BRep w b F st)(hi:BInv st)(hv:st.nested=true->∃l0,st.vtab=some l0)(hu:st.m.bytes.length<=1700000):
  Calls Tryz.prog 70 #[.pointer (some ⟨b,0,none⟩)] w (BRes w b F (numRes st.endObj)):=by
 have HN:=Hd (assertNested_calls b F st w h);cases hn:st.nested with
 | false =>
  have e:numRes st.endObj=none:=by unfold BSt.endObj numRes;rw[hn];rfl
  rw[e];rw[hn] at HN;clear h hi hv hu hn;go_enter Tryz.func70,Tryz.ntmps70;go_wp2_with fail;refine HN.out.mono ?_;rintro e w' ⟨⟨u,v,rfl⟩,rfl⟩;exact⟨rfl,⟨u,v,rfl⟩,Fr.refl _ _⟩
 | true =>
  have e:numRes st.endObj=some (.int .u32 st.vt1.bytes.length,{ st.writeVt with nested:=false }):=by unfold BSt.endObj numRes;rw[hn];rfl
  rw[e];rw[hn] at HN;obtain⟨l0,hl0⟩:=hv hn;have HW:=Hd (WriteVtable_calls b F st l0 w h hi hl0 hu);obtain⟨o,ho⟩:=exA (st.vt1.bytes.length);rw[<-ho] at HW ⊢;clear h hi hv hu hn hl0 e ho;go_enter Tryz.func70,Tryz.ntmps70;go_wp2_with fail;refine HN.out.mono ?_;rintro e w' ⟨rfl,rfl⟩;go_wp2_with fail;refine HW.out.mono ?_;rintro e w1 ⟨rfl,F1,hb1,ha1⟩;have c6:=hb1.cells.1;have f6:=hb1.frozen 6;have h6:=hb1.set6 false;have HB:=Hd h6.1;have HA:=Hd (ha1.trans h6.2);clear hb1 ha1 h6;go_wp2_with fail;go_ret;exact⟨rfl,F1,HB.out,HA.out⟩
def BSt.finish(st:BSt)(off:Nat):Option BSt :=
 if st.nested then none else (BSt.refer { st with m:=st.m.prep st.m.least 4 } off).map λs=>{ s with fin:=true }
theorem Finish_calls(b:Nat)(F:List Nat)(st:BSt)(off:Nat)(w:World)(h:BRep w b F st)(hl:algn st.m.least)(hu:st.m.bytes.length<=1700000)(ho:off<4294967296):
  Calls Tryz.prog 66 #[.pointer (some ⟨b,0,none⟩),.int .u32 off] w (BRes w b F (unitRes (st.finish off))):=by
 have HN:=Hd (assertNotNested_calls b F st w h);cases hn:st.nested with
 | true =>
  have e:st.finish off=none:=by unfold BSt.finish;rw[hn];rfl
  rw[e];rw[hn] at HN;clear h hl hu hn;go_enter Tryz.func66,Tryz.ntmps66;go_wp2_with fail;refine HN.out.mono ?_;rintro e w' ⟨⟨u,v,rfl⟩,rfl⟩;exact⟨rfl,⟨u,v,rfl⟩,Fr.refl _ _⟩
 | false =>
  have e:st.finish off=(BSt.refer { st with m:=st.m.prep st.m.least 4 } off).map λs=>{ s with fin:=true }:=by unfold BSt.finish;rw[hn];rfl
  rw[e];rw[hn] at HN;have c1:=h.cells.2.2.2.2;have hle:=st.m.prep_le st.m.least 4 hl;have hl16:=algn_le hl;have HP:=Hd (Prep_b b F st st.m.least 4 w h hl (by omega));obtain⟨L,hL⟩:=exA (st.m.least);rw[<-hL] at c1 hle HP hl16 ⊢;clear h hl hn e hL;have hs:BSt.refer { st with m:=st.m.prep L 4 } off=none\/∃s,BSt.refer { st with m:=st.m.prep L 4 } off=some s:=by
   cases BSt.refer { st with m:=st.m.prep L 4 } off with
   | none=>exact .inl rfl
   | some s=>exact .inr ⟨s,rfl⟩
  rcases hs with hs|⟨s,hs⟩
  all_goals
   rw[hs];have HS:=Hd hs;clear hs;go_enter Tryz.func66,Tryz.ntmps66;go_wp2_with fail;refine HN.out.mono ?_;rintro e w' ⟨rfl,rfl⟩;go_wp2_with fail;refine HP.out.mono ?_;rintro e w1 ⟨rfl,F1,hb1,ha1⟩;have HC:=Hd (PrependUOffsetT_b b F1 _ off w1 hb1 (by show (st.m.prep L 4).bytes.length<=_;omega) ho);rw[HS.out] at HC;have HA:=Hd ha1;clear hb1 ha1;go_wp2_with fail;refine HC.out.mono ?_
  ·rintro e w2 ⟨⟨u,v,rfl⟩,hf⟩;exact⟨rfl,HA.out.falls ⟨⟨u,v,rfl⟩,hf⟩⟩
  ·rintro e w2 ⟨rfl,F2,hb2,ha2⟩;have c7:=hb2.cells.2.1;have f7:=hb2.frozen 7;have h7:=hb2.set7 true;have HB2:=Hd h7.1;have HA2:=Hd (HA.out.trans (ha2.trans h7.2));clear hb2 ha2 h7;go_wp2_with fail;go_end0
   exact⟨rfl,F2,HB2.out,HA2.out⟩
def BSt.finishId(st:BSt)(off:Nat)(xs:List UInt8):Option BSt :=
 if xs.length=4 then BSt.finish { st with m:=(st.m.prep st.m.least 8).put xs } off else none
theorem leI_byte(x:UInt8):leI 1 (x.toNat:Int)=[x]:=by
 rw[leI_nat];have:=leB_le [x]
 simp only[List.length_singleton,le,Nat.mul_zero,Nat.add_zero] at this;exact this
theorem BM.put_put(m:BM)(xs ys:List UInt8):(m.put ys).put xs=m.put (xs++ys):=by
 unfold BM.put;simp only[List.length_append,List.append_assoc,BM.mk.injEq,and_true,true_and];omega
def IdR (b:Nat)(F:List Nat)(w:World)(st:BSt)(m:BM)(xs:List UInt8)(sv:Value)(i:Nat)(wr:World):Prop :=
 ∃F',BRep wr b F' { st with m:=m.put (xs.drop i) }/\Adv w wr F F'/\Src wr F' sv xs
theorem FinishId_calls(b:Nat)(F:List Nat)(st:BSt)(off:Nat)(xs:List UInt8)(sv:Value)(w:World)(h:BRep w b F st)(hsv:Src w F sv xs)(hl:algn st.m.least)(hu:st.m.bytes.length<=1600000)(ho:off<4294967296)(hx:xs.length<=100000):
  Calls Tryz.prog 67 #[.pointer (some ⟨b,0,none⟩),.int .u32 off,sv] w (BRes w b F (unitRes (st.finishId off xs))):=by
 obtain⟨B,o,cap,hv,hB1,hB2,hB3⟩:=hsv;have hsv:Src w F sv xs:=⟨B,o,cap,hv,hB1,hB2,hB3⟩;obtain⟨n,hn⟩:=exA (xs.length);rw[<-hn] at hv;have hnil:=λw=>Go.run_eql_slice_nil (P:=Tryz.prog) w 81 5 (some ⟨B,o,none⟩) n cap Tryz.underlying81;by_cases h4:n=4
 ·have e:st.finishId off xs=BSt.finish { st with m:=(st.m.prep st.m.least 8).put xs } off:=by unfold BSt.finishId;rw[if_pos (by omega)]
  rw[e];have c1:=h.cells.2.2.2.2;have hle:=st.m.prep_le st.m.least 8 hl;have hl16:=algn_le hl;have hroom:=st.m.prep_room st.m.least 8;have HP:=Hd (Prep_b b F st st.m.least 8 w h hl (by omega));have HL:=Hd hl;obtain⟨L,hL⟩:=exA (st.m.least);have hmax:((st.m.prep L 8).put xs).least=L:=by show max st.m.least L=L;omega
  rw[<-hL] at c1 hle HP hl16 hroom HL;have hst:BSt.finish { st with m:=(st.m.prep st.m.least 8).put xs } off=BSt.finish { st with m:=(st.m.prep L 8).put xs } off:=by rw[hL]
  rw[hst];have HN:=Hd hn;have HSV:=Hd hsv;have HV:=Hd hv;rw[hv];have HM:=Hd hmax;have HR:=Hd hroom;obtain⟨res,hres⟩:=exA (BSt.finish { st with m:=(st.m.prep L 8).put xs } off);rw[<-hres];have HRES:=Hd hres;subst h4;clear h hl e hL hst hn hsv hv hmax hroom hres;have hcases:res=none\/∃s,res=some s:=by
   cases res with
   | none=>exact .inl rfl
   | some s=>exact .inr ⟨s,rfl⟩
  have HCS:=Hd hcases;clear hcases;go_enter Tryz.func67,Tryz.ntmps67;go_wp2_with fail;refine HP.out.mono ?_;rintro e w1 ⟨rfl,F1,hb1,ha1⟩;have hI:IdR b F w st (st.m.prep L 8) xs sv 4 w1:=⟨F1,by rw[List.drop_of_length_le (by rw[<-HN.out];exact Nat.le_refl _)];exact hb1,ha1,HSV.out.adv ha1⟩;have HI:=Hd hI;clear hI hb1 ha1;go_wp2_with fail;go_loopw [6] (λv wr=>∃q:Int,-1<=q/\q<4/\v=.int .i64 q/\IdR b F w st (st.m.prep L 8) xs sv (q+1).toNat wr) (λv _=>(intOf v+1).toNat)
  case atStart=>exact⟨3,by omega,by omega,rfl,HI.out⟩
  case round =>
   obtain⟨q,hq0,hq1,rfl,hR⟩:=hrel;obtain⟨F2,hb2,ha2,hs2⟩:=hR;by_cases hneg:q<0
   ·obtain rfl:q=-1:=(by omega);have hb2':BRep wr b F2 { st with m:=(st.m.prep L 8).put xs }:=hb2;have HC:=Hd (Finish_calls b F2 _ off wr hb2' (by show algn ((st.m.prep L 8).put xs).least;rw[HM.out];exact HL.out) (by show (xs++(st.m.prep L 8).bytes).length<=_;rw[List.length_append,<-HN.out];omega) ho);rw[<-HRES.out] at HC;have HA:=Hd ha2;clear hb2 hb2' ha2 hs2;rcases HCS.out with hs|⟨s,hs⟩
    all_goals
     rw[hs] at HC;have HS:=Hd hs;clear hs;go_wp2_with fail;refine HC.out.mono ?_
    ·rintro e w2 ⟨⟨u,v,rfl⟩,hf⟩;rw[HS.out];exact⟨rfl,HA.out.falls ⟨⟨u,v,rfl⟩,hf⟩⟩
    ·rintro e w2 ⟨rfl,F3,hb3,ha3⟩;have HB3:=Hd hb3;have HA3:=Hd (HA.out.trans ha3);clear hb3 ha3;go_wp2_with fail;go_end0
     rw[HS.out];exact⟨rfl,F3,HB3.out,HA3.out⟩
   ·obtain⟨j,rfl⟩:∃j:Nat,q=j:=⟨q.toNat,by omega⟩;have hj:j<xs.length:=(by have:=HN.out;omega);obtain⟨x,hx⟩:=exA (xs[j]);have hcons:xs.drop j=x::xs.drop (j+1):=(by rw[hx];exact List.drop_eq_getElem_cons hj);rw[show ((j:Int)+1).toNat=j+1 by omega] at hb2;obtain⟨B',o',cap',hv',_,_,hm'⟩:=hs2;have hv2:=HV.out;rw[hv'] at hv2;have hBo:B'=B/\o'=o:=by
     simp only[Value.slice.injEq,Option.some.injEq,Addr.mk.injEq] at hv2;exact⟨hv2.1.1,hv2.1.2.1⟩
    obtain⟨rfl,rfl⟩:=hBo;have cj:wr.cell? ⟨B',o'+j,none⟩=some (.int .u8 x.toNat):=hm' j x (by rw[hx];exact List.getElem?_eq_getElem hj);have hx0:=x.toNat_lt;have hrm:1<=((st.m.prep L 8).put (xs.drop (j+1))).room:=by
     show 1<=(st.m.prep L 8).room-(xs.drop (j+1)).length;have:=HR.out
     rw[List.length_drop,<-HN.out];omega
    have HC:=Hd (BRep.liftP (xs:=leI 1 (x.toNat:Int)) (z:=1) hb2 (by rw[leI_length]) (λY r c hb=>PlaceByte_ok b Y r _ _ _ c (x.toNat:Int) (by omega) (by omega) wr hb hrm));have HA:=Hd ha2;have HSS:=Hd (show Src wr F2 sv xs from ⟨B',o',cap',hv',‹_›,‹_›,hm'⟩);have HCN:=Hd hcons;clear hb2 ha2 hm' hx hcons hrm hv' hv2 hj;go_wp2_with fail;refine HC.out.mono ?_;rintro e w2 ⟨rfl,F3,hb3,ha3⟩;have hb4:BRep w2 b F3 { st with m:=(st.m.prep L 8).put (xs.drop j) }:=by
     rw[HCN.out,<-List.singleton_append,<-BM.put_put,<-leI_byte];exact hb3
    have hR:IdR b F w st (st.m.prep L 8) xs sv j w2:=⟨F3,hb4,HA.out.trans ha3,HSS.out.adv ha3⟩;have HRR:=Hd hR;clear hb3 hb4 ha3 hR;go_wp2_with fail;go_roundw
    case rel=>exact⟨(j:Int)-1,by omega,by omega,rfl,by rw[show ((j:Int)-1+1).toNat=j by omega];exact HRR.out⟩
    case measure=>simp[intOf]
 ·have e:st.finishId off xs=none:=by unfold BSt.finishId;rw[if_neg (by omega)]
  rw[e,hv];have hq1:((n:Int)==4)=false:=by rw[beq_eq_false_iff_ne];omega
  have hq2:((n:Int) != 4)=true:=by simp only[bne,hq1];rfl
  have hq3:(n==4)=false:=by rw[beq_eq_false_iff_ne];omega
  have hq4:(n != 4)=true:=by simp only[bne,hq3];rfl
  clear h hl e hn hv hB3 h4 hsv;go_enter Tryz.func67,Tryz.ntmps67;go_wp2_with fail;exact⟨rfl,⟨_,_,rfl⟩,Fr.refl _ _⟩
theorem FinishedBytes_ok(b:Nat)(F:List Nat)(st:BSt)(w:World)(h:BRep w b F st)(hf:st.fin=true):
  Calls Tryz.prog 68 #[.pointer (some ⟨b,0,none⟩)] w λe w'=>∃Y o cap n,e=.returned (.slice (some ⟨Y,o,none⟩) st.m.bytes.length cap)/\Mem w' Y o st.m.bytes/\w'=w.drewN n:=by
 have HA:=Hd (assertFinished_calls b F st w h);rw[hf] at HA;obtain⟨Y,V,G,M,r,c,rfl,hb,ho⟩:=h;have c0:w.cell? ⟨b,0,none⟩=some (.slice (some ⟨Y,0,none⟩) (st.m.room+st.m.bytes.length) c.size):=by rw[cell_of hb.hb];rfl
 have hfit:=hb.fit;have hlim:=hb.lim;have hsl:=λw'=>run_slice_from (P:=Tryz.prog) Tryz.underlying81 sizeU8b Y 0 (st.m.room+st.m.bytes.length) c.size .u32 (st.m.room:Int) st.m.room rfl (by omega) w';rw[show st.m.room+st.m.bytes.length-st.m.room=st.m.bytes.length by omega] at hsl;have hmem:Mem w Y (sOff 0 st.m.room c.size) st.m.bytes:=by
  by_cases hc:st.m.room<c.size
  ·rw[sOff_lt hc,Nat.zero_add];exact hb.mem
  ·intro i x hx;have:=(List.getElem?_eq_some_iff.1 hx).1
   omega
 obtain⟨o,hoo⟩:=exA (sOff 0 st.m.room c.size);rw[<-hoo] at hsl hmem;obtain⟨rm,hrm⟩:=exA (st.m.room);obtain⟨len,hlen⟩:=exA (st.m.bytes.length);have HH:=Hd (λnq=>Head_calls b Y r st.m.room st.m.least st.m.bytes c (w.drewN nq) (hb.drewN nq));rw[<-hrm] at HH;rw[<-hrm,<-hlen] at c0 hsl hfit hlim;rw[<-hlen];have HM:=Hd hmem;clear hb ho hf hmem hoo hrm hlen;go_enter Tryz.func68,Tryz.ntmps68;go_wp2_with fail;refine HA.out.mono ?_;rintro e w' ⟨rfl,rfl⟩;go_wp2_with fail;go_quiet ((go_at_call 45;exact quiet_same2 (HH.out _)))
 go_wp2_with fail;go_ret;exact⟨Y,o,_,_,rfl,HM.out,rfl⟩
theorem strLaw:Maps.Keyed Tryz.prog 9:=Maps.string_keyed Tryz.underlying9
theorem zeroOff(w:World):(zeroValue 98).run Tryz.prog w=.ok (.int .u32 0) w:=by kernel_rfl
theorem ownsMap_exact{w:World}{P:Program}{k:TypeId}{R:Value->Option (DataW Unit × List MemPlace)}{b n:Nat}{D:DataW Unit}(h:w.ownsMap P k R b n D):w.ownsMap P k R b (Maps.size D) D:=by
 obtain⟨es,clock,hb,F,hs,rfl⟩:=h;refine⟨es,clock,hb,F,?_,rfl⟩;simp[Maps.size,length_sorted]
theorem BRep.shAt{w:World}{b:Nat}{F:List Nat}{st:BSt}{D:DataW Unit}(h:BRep w b F st)(hD:st.shared=some D):
  ∃M,w.cell? ⟨b,8,none⟩=some (.map (some M))/\w.ownsMap Tryz.prog 9 (plainElem Tryz.prog 98) M (Maps.size D) D /\
   ∀w' D' n,n<=1000000->w'.ownsMap Tryz.prog 9 (plainElem Tryz.prog 98) M n D'->Fr (λk=>k=M) w w'->BRep w' b F { st with shared:=some D' }/\Adv w w' F F:=by
 obtain⟨Y,V,G,M,r,c,rfl,hb,ho⟩:=h;have hsh:=ho.sh;rw[hD] at hsh;have hMb:M≠b:=ShRep.ne_of hsh hb.hb;have hMY:M≠Y:=ShRep.ne_of hsh hb.hy;have hMG:M≠G:=by obtain⟨cv,_,h2,_⟩:=ho.vs;exact ShRep.ne_of hsh h2
 have hMV:st.vtab≠none->M≠V:=by
  intro hv;have hvt:=ho.vt;cases hc:st.vtab with
  | none=>exact absurd hc hv
  | some l=>rw[hc] at hvt;obtain⟨cv,_,h2,_⟩:=hvt;exact ShRep.ne_of hsh h2
 obtain⟨hv8,n0,hn0,hown⟩:=hsh;refine⟨M,by rw[cell_of hb.hb,<-hv8];rfl,ownsMap_exact hown,λw' D' n hn hown' hf=>?_⟩;refine⟨⟨Y,V,G,M,r,c,rfl,hb.fr hf (λe=>hMb e.symm) (λe=>hMY e.symm),⟨?_,ho.oe,ho.vs.fr hf (λe=>hMG e.symm),ho.ne,ho.fi,⟨hv8,n,hn,hown'⟩,ho.vg⟩⟩,hf.mono (λi _ hi=>by subst hi;simp),λk hk=>.inl hk⟩;have hvt:=ho.vt;cases hc:st.vtab with
 | none=>rw[hc] at hvt;exact hvt
 | some l=>rw[hc] at hvt;exact OffRow.fr hvt hf (λe=>hMV (by rw[hc];simp) e.symm)
theorem BRep.shNew{w:World}{b:Nat}{F:List Nat}{st:BSt}(h:BRep w b F st):
  ∃F',BRep ((w.setCell ⟨b,8,none⟩ (.map (some w.heap.size))).alloc (.map #[] 0)) b F' { st with shared:=some (.map []) }/\Adv w ((w.setCell ⟨b,8,none⟩ (.map (some w.heap.size))).alloc (.map #[] 0)) F F':=by
 obtain⟨Y,V,G,M,r,c,rfl,hb,ho⟩:=h;have hf:Fr (λk=>k=b) w ((w.setCell ⟨b,8,none⟩ (.map (some w.heap.size))).alloc (.map #[] 0)):=((Fr.refl (λk=>k=b) w).setCell (λ_=>rfl) _).alloc _;have hsz:(w.setCell ⟨b,8,none⟩ (.map (some w.heap.size))).heap.size=w.heap.size:=by simp[World.setCell]
 have hown:=World.ownsMap_made (H:=Unit) (w.setCell ⟨b,8,none⟩ (.map (some w.heap.size))) Tryz.prog 9 (plainElem Tryz.prog 98);rw[hsz] at hown;have hbl:=lt_of_block hb.hb;have ho2:=ho.kept hb hf (λk h=>.inl h);refine⟨[b,Y,V,G,w.heap.size],⟨Y,V,G,w.heap.size,{ r with v8:=.map (some w.heap.size) },c,rfl,⟨?_,?_,hb.fit,hb.eq,hb.lim,hb.ne,hb.cap,hb.one,hb.zero⟩,⟨ho2.vt,ho2.oe,ho2.vs,ho2.ne,ho2.fi,⟨rfl,0,by omega,hown⟩,ho2.vg⟩⟩,hf.mono (λi _ hi=>by subst hi;simp),λk hk=>?_⟩
 ·exact (heap_alloc_old _ _ _ (by rw[hsz];exact hbl)).trans (heap_setCell_same hb.hb 8 _)
 ·rw[heap_alloc_old _ _ _ (by rw[hsz];exact lt_of_block hb.hy),heap_setCell_other _ _ _ _ (show Y≠b from λe=>hb.ne e.symm)];exact hb.hy
 ·simp only[List.mem_cons,List.not_mem_nil,or_false] at hk ⊢;rcases hk with rfl|rfl|rfl|rfl|rfl
  ·simp
  ·simp
  ·simp
  ·simp
  ·right;exact Nat.le_refl _
def numOf:DataW Unit->Nat
 | .lit (.int _ a)=>a.toNat
 | _=>0
def BSt.sharedStr(st:BSt)(xs:List UInt8):Option (Nat × BSt) :=
 if Maps.has (st.shared.getD (.map [])) (.string xs) then some (numOf ((st.shared.getD (.map [])).atKey (.string xs) (.lit (.int .u32 0))),{ st with shared:=some (st.shared.getD (.map [])) })
 else (BSt.created { st with shared:=some (st.shared.getD (.map [])) } xs true).map λp=>(p.1,{ p.2 with shared:=some ((st.shared.getD (.map [])).put (.string xs) (.lit (.int .u32 p.1))) })
def BM.text(m:BM)(xs:List UInt8):Bool->BM
 | true=>(((m.prep 4 (xs.length+1)).put [0]).put xs).put (leB 4 xs.length)
 | false=>((m.prep 4 xs.length).put xs).put (leB 4 xs.length)
theorem created_eq(st:BSt)(xs:List UInt8)(z:Bool)(hn:st.nested=false):st.created xs z=some ((st.m.text xs z).bytes.length,{ st with m:=st.m.text xs z,nested:=false }):=by
 unfold BSt.created BSt.create BSt.endVec;rw[hn,if_neg (by simp)];cases z with
 | true =>
  have:=st.m.prep_room 4 (xs.length+1)
  rw[if_pos rfl,if_neg (by show ¬(st.m.prep 4 (xs.length+1)).room-1-xs.length<4;omega)];have e:(st.m.text xs true).bytes.length=4+(((st.m.prep 4 (xs.length+1)).put [0]).put xs).bytes.length:=by
   show (leB 4 _++_).length=_;rw[List.length_append,leB_length]
  rw[e];rfl
 | false =>
  have:=st.m.prep_room 4 xs.length
  rw[if_pos rfl,if_neg (by show ¬(st.m.prep 4 xs.length).room-xs.length<4;omega)];have e:(st.m.text xs false).bytes.length=4+((st.m.prep 4 xs.length).put xs).bytes.length:=by
   show (leB 4 _++_).length=_;rw[List.length_append,leB_length]
  rw[e];rfl
theorem created_none(st:BSt)(xs:List UInt8)(z:Bool)(hn:st.nested=true):st.created xs z=none:=by unfold BSt.created;rw[hn];rfl
theorem BM.text_len(m:BM)(xs:List UInt8)(z:Bool):(m.text xs z).bytes.length<=m.bytes.length+xs.length+9:=by
 cases z with
 | true =>
  have:=m.prep_le 4 (xs.length+1) (by unfold algn;omega)
  show (leB 4 _++(xs++([0]++(m.prep 4 (xs.length+1)).bytes))).length<=_;simp only[List.length_append,leB_length,List.length_singleton];omega
 | false =>
  have:=m.prep_le 4 xs.length (by unfold algn;omega)
  show (leB 4 _++(xs++(m.prep 4 xs.length).bytes)).length<=_;simp only[List.length_append,leB_length];omega
theorem CreateSharedString_calls(b:Nat)(F:List Nat)(st:BSt)(xs:List UInt8)(w:World)(h:BRep w b F st)(hx:xs.length<=100000)(hu:st.m.bytes.length<=1700000)(hsz:Maps.size (st.shared.getD (.map []))<=900000):
  Calls Tryz.prog 84 #[.pointer (some ⟨b,0,none⟩),.string (strOf xs)] w (BRes w b F (numRes (st.sharedStr xs))):=by
 have hmm:=@run_makeMap Tryz.prog;obtain⟨D,hD⟩:=exA (st.shared.getD (.map []));have hss:st.sharedStr xs=if Maps.has D (.string xs) then some (numOf (D.atKey (.string xs) (.lit (.int .u32 0))),{ st with shared:=some D })
   else (BSt.created { st with shared:=some D } xs true).map λp=>(p.1,{ p.2 with shared:=some (D.put (.string xs) (.lit (.int .u32 p.1))) }):=by
  unfold BSt.sharedStr;rw[<-hD]
 obtain⟨res,hres⟩:=exA (st.sharedStr xs);rw[<-hres];rw[<-hres] at hss;rw[<-hD] at hsz;have HSS:=Hd hss;have HSZ:=Hd hsz;obtain⟨S,hS⟩:=exA (strOf xs);rw[<-hS];have hSl:S.data.toList=xs:=by rw[hS];simp[strOf]
 have hkey:keyOf Tryz.prog 9 (.string S)=some (.string xs):=by
  rw[<-hSl];refine WideMaps.keyOf_string_mk Tryz.underlying9 ?_;have hsl:S.size=xs.length:=by rw[hS,strOf_size]
  rw[hsl];unfold maxLen;omega
 have HKEY:=Hd hkey;have HS:=Hd hS;have f8:=h.frozen 8;have hbl:=h.lt
 -- the map is there
 have hthere:(st.shared=none/\D=.map [])\/st.shared=some D:=by
  cases hc:st.shared with
  | none=>left;exact⟨rfl,by rw[hD,hc];rfl⟩
  | some D'=>right;rw[hD,hc];rfl
 clear hss hsz hres hS hSl hkey hD;rcases hthere with ⟨hno,hD0⟩|hso
 ·have hnew:=h.shNew;have c8:w.cell? ⟨b,8,none⟩=some (.map none):=by
   obtain⟨Y,V,G,M,r,c,rfl,hb,ho⟩:=h;have hsh:=ho.sh;rw[hno] at hsh;rw[cell_of hb.hb,<-hsh.1];rfl
  rw[<-hD0] at hnew;have HNEW:=Hd hnew;have heq:=λw=>run_eql_map_nil (P:=Tryz.prog) w 101 9 98 none Tryz.underlying101;clear h hno hD0 hnew;go_enter Tryz.func84,Tryz.ntmps84;go_upto_region 3 with fail;obtain⟨F1,hb1,ha1⟩:=HNEW.out;generalize (w.setCell ⟨b,8,none⟩ (.map (some w.heap.size))).alloc (.map #[] 0)=w1 at *;have HB1:=Hd hb1;have HA1:=Hd ha1;clear hb1 ha1 HNEW heq c8 f8 hmm;obtain⟨M,m8,hown,hturn⟩:=HB1.out.shAt (D:=D) rfl;have hw0:(Lit.int IntKind.u32 0).wf=true:=by decide
  obtain⟨v,ps,hrun,hv⟩:=hown.look_ok strLaw Tryz.underlying101 (zeroOff w1) (plainElem_int (H:=Unit) Tryz.underlying98 hw0) HKEY.out;obtain⟨c,rfl,hc,hwf⟩:=plainElem_int_inv Tryz.underlying98 hv;have hc2:D.atKey (.string xs) (.lit (.int .u32 0))=.lit (.int .u32 c):=congrArg Prod.fst hc;have HSS2:=HSS.out;rw[hc2] at HSS2;have HRES:=Hd HSS2;have hc0:0<=c:=by
   have h:=hwf;simp only[Lit.wf,Bool.and_eq_true,decide_eq_true_eq] at h;exact h.1
  clear hc hc2 hv hwf HSS2 hw0;obtain⟨k,rfl⟩:∃k:Nat,c=k:=⟨c.toNat,by omega⟩;clear hc0;cases hhas:Maps.has D (.string xs) with
  | true =>
   rw[hhas] at hrun HRES;clear hown hturn hhas;go_wp2_with fail;go_ret;rw[HRES.out];exact⟨rfl,F1,HB1.out,HA1.out⟩
  | false =>
   rw[hhas] at hrun HRES;clear hown hturn hhas;have HC:=Hd (CreateString_calls b F1 { st with shared:=some D } xs w1 HB1.out hx hu);rw[<-HS.out] at HC;cases hcr:BSt.created { st with shared:=some D } xs true with
   | none =>
    rw[hcr] at HC HRES;clear hcr;go_wp2_with fail;refine HC.out.mono ?_;rintro e w2 ⟨⟨u,v,rfl⟩,hf⟩;rw[HRES.out];exact⟨rfl,HA1.out.falls ⟨⟨u,v,rfl⟩,hf⟩⟩
   | some p =>
    obtain⟨n,s⟩:=p;rw[hcr] at HC HRES;have hnn:=(created_eq { st with shared:=some D } xs true (by
     cases hne:st.nested with
     | false=>rfl
     | true=>rw[created_none _ _ _ (show ({ st with shared:=some D }:BSt).nested=true from hne)] at hcr;cases hcr)).symm.trans hcr
    have hsh:s.shared=some D:=(by injection hnn with h;injection h with _ h;rw[<-h]);have hnl:n<=4000000:=by
     have:=BM.text_len st.m xs true
     injection hnn with h;injection h with h _;rw[<-h];show (st.m.text xs true).bytes.length<=_;omega
    clear hcr hnn;have HSH:=Hd hsh;clear hsh;go_wp2_with fail;refine HC.out.mono ?_;rintro e w2 ⟨rfl,F2,hb2,ha2⟩;obtain⟨M2,m82,hown2,hturn2⟩:=hb2.shAt HSH.out;have HA2:=Hd (HA1.out.trans ha2);have HT2:=Hd hturn2;have hsz2:=HSZ.out;have hwn:(Lit.int IntKind.u32 (n:Int)).wf=true:=WalkArith.wf_u32 ⟨by omega,by omega⟩;have HWN:=Hd hwn;have HOWN:=Hd hown2;clear hb2 ha2 hturn2 hwn hown2 hrun m8;go_wp2_with (at_mapUpdate;refine wpList_mapUpdate_own _ rfl _ _ _ 101 rfl 9 98 strLaw Tryz.underlying101 _ M2 (Maps.size D) D rfl HOWN.out (by unfold maxLen;omega) _ _ _ rfl rfl HKEY.out _ [] (plainElem_int (H:=Unit) Tryz.underlying98 HWN.out) ?_;intro w3 hown3 hgrow3);obtain⟨hb3,ha3⟩:=HT2.out w3 _ _ (by omega) hown3 ((grown_fr hgrow3).mono (λ_ _ h=>by injection h));have HB3:=Hd hb3;have HA3:=Hd (HA2.out.trans ha3);clear hb3 ha3 hown3 hgrow3;go_wp2_with fail;go_ret;rw[HRES.out];exact⟨rfl,F2,HB3.out,HA3.out⟩
 ·have c8:∃M,w.cell? ⟨b,8,none⟩=some (.map (some M)):=by
   obtain⟨M,h8,_⟩:=h.shAt hso;exact⟨M,h8⟩
  obtain⟨M0,c8⟩:=c8;have heq:=λw=>run_eql_map_nil (P:=Tryz.prog) w 101 9 98 (some M0) Tryz.underlying101;have hb0:BRep w b F { st with shared:=some D }:=by rw[<-hso];exact h
  have HB0:=Hd hb0;clear h hso hb0;go_enter Tryz.func84,Tryz.ntmps84;go_upto_region 3 with fail;have hb1:=HB0.out;have ha1:Adv w w F F:=Adv.refl _ _;have HB1:=Hd hb1;have HA1:=Hd ha1;clear hb1 ha1 heq c8 f8 hmm;obtain⟨M,m8,hown,hturn⟩:=HB1.out.shAt (D:=D) rfl;have hw0:(Lit.int IntKind.u32 0).wf=true:=by decide
  obtain⟨v,ps,hrun,hv⟩:=hown.look_ok strLaw Tryz.underlying101 (zeroOff w) (plainElem_int (H:=Unit) Tryz.underlying98 hw0) HKEY.out;obtain⟨c,rfl,hc,hwf⟩:=plainElem_int_inv Tryz.underlying98 hv;have hc2:D.atKey (.string xs) (.lit (.int .u32 0))=.lit (.int .u32 c):=congrArg Prod.fst hc;have HSS2:=HSS.out;rw[hc2] at HSS2;have HRES:=Hd HSS2;have hc0:0<=c:=by
   have h:=hwf;simp only[Lit.wf,Bool.and_eq_true,decide_eq_true_eq] at h;exact h.1
  clear hc hc2 hv hwf HSS2 hw0;obtain⟨k,rfl⟩:∃k:Nat,c=k:=⟨c.toNat,by omega⟩;clear hc0;cases hhas:Maps.has D (.string xs) with
  | true =>
   rw[hhas] at hrun HRES;clear hown hturn hhas;go_wp2_with fail;go_ret;rw[HRES.out];exact⟨rfl,F,HB1.out,HA1.out⟩
  | false =>
   rw[hhas] at hrun HRES;clear hown hturn hhas;have HC:=Hd (CreateString_calls b F { st with shared:=some D } xs w HB1.out hx hu);rw[<-HS.out] at HC;cases hcr:BSt.created { st with shared:=some D } xs true with
   | none =>
    rw[hcr] at HC HRES;clear hcr;go_wp2_with fail;refine HC.out.mono ?_;rintro e w2 ⟨⟨u,v,rfl⟩,hf⟩;rw[HRES.out];exact⟨rfl,HA1.out.falls ⟨⟨u,v,rfl⟩,hf⟩⟩
   | some p =>
    obtain⟨n,s⟩:=p;rw[hcr] at HC HRES;have hnn:=(created_eq { st with shared:=some D } xs true (by
     cases hne:st.nested with
     | false=>rfl
     | true=>rw[created_none _ _ _ (show ({ st with shared:=some D }:BSt).nested=true from hne)] at hcr;cases hcr)).symm.trans hcr
    have hsh:s.shared=some D:=(by injection hnn with h;injection h with _ h;rw[<-h]);have hnl:n<=4000000:=by
     have:=BM.text_len st.m xs true
     injection hnn with h;injection h with h _;rw[<-h];show (st.m.text xs true).bytes.length<=_;omega
    clear hcr hnn;have HSH:=Hd hsh;clear hsh;go_wp2_with fail;refine HC.out.mono ?_;rintro e w2 ⟨rfl,F2,hb2,ha2⟩;obtain⟨M2,m82,hown2,hturn2⟩:=hb2.shAt HSH.out;have HA2:=Hd (HA1.out.trans ha2);have HT2:=Hd hturn2;have hsz2:=HSZ.out;have hwn:(Lit.int IntKind.u32 (n:Int)).wf=true:=WalkArith.wf_u32 ⟨by omega,by omega⟩;have HWN:=Hd hwn;have HOWN:=Hd hown2;clear hb2 ha2 hturn2 hwn hown2 hrun m8;go_wp2_with (at_mapUpdate;refine wpList_mapUpdate_own _ rfl _ _ _ 101 rfl 9 98 strLaw Tryz.underlying101 _ M2 (Maps.size D) D rfl HOWN.out (by unfold maxLen;omega) _ _ _ rfl rfl HKEY.out _ [] (plainElem_int (H:=Unit) Tryz.underlying98 HWN.out) ?_;intro w3 hown3 hgrow3);obtain⟨hb3,ha3⟩:=HT2.out w3 _ _ (by omega) hown3 ((grown_fr hgrow3).mono (λ_ _ h=>by injection h));have HB3:=Hd hb3;have HA3:=Hd (HA2.out.trans ha3);clear hb3 ha3 hown3 hgrow3;go_wp2_with fail;go_ret;rw[HRES.out];exact⟨rfl,F2,HB3.out,HA3.out⟩
end Go.Proofs.YtcfblkkpclfmaaaGreat
