/- Part 9 of the proof of FnEvolved; no condition. -/
import Derived.Test.YtcfblkkpclfmaaaGreatEb08
import Derived.Lib.LazyBuf
import Derived.Laws.IdiomCopy
import Derived.Test.YtcfblkkpclfmaaaGreatEb02
import Derived.Maps.AppendAt
set_option linter.unusedVariables false
set_option linter.unusedSimpArgs false
set_option maxRecDepth 100000
set_option maxHeartbeats 16000000
namespace Go.Proofs.YtcfblkkpclfmaaaGreat
open Go.RowKit
theorem BRep.liftF{f:FuncId}{args:Array Value}{w:World}{b:Nat}{F:List Nat}{st:BSt}(h:BRep w b F st)
  (hc:∀Y r c,BBm w b Y r st.m c->Calls Tryz.prog f args w (Falls2 (λk=>k=b\/k=Y) w)):Calls Tryz.prog f args w (Falls2 (λk=>k∈F) w):=by
 obtain⟨Y,V,G,M,r,c,rfl,hb,ho⟩:=h;refine (hc Y r c hb).mono ?_;rintro e w' ⟨h1,h2⟩;exact⟨h1,h2.mono (λi _ hi=>by rcases hi with rfl|rfl<;>simp)⟩
theorem BRep.liftP{f:FuncId}{args:Array Value}{w:World}{b:Nat}{F:List Nat}{st:BSt}{z:Nat}{xs:List UInt8}(h:BRep w b F st)(hx:xs.length=z)
  (hc:∀Y r c,BBm w b Y r st.m c->Calls Tryz.prog f args w λe w'=>e=.returned (.tuple #[])/\(∃c',BB w' b Y r (st.m.room-z) st.m.least (xs++st.m.bytes) c')/\Fr (λk=>k=b\/k=Y) w w'):
  Calls Tryz.prog f args w (BRes w b F (some (.tuple #[],{ st with m:=st.m.put xs }))):=by
 refine h.lift λY r c hb=>(hc Y r c hb).mono ?_;rintro e w' ⟨rfl,h1,h2⟩;refine⟨rfl,BBx.here ?_ h2⟩;show ∃c',BB w' b Y r (st.m.room-xs.length) _ _ c';rw[hx];exact h1
theorem PlaceUOffsetT_b(b:Nat)(F:List Nat)(st:BSt)(n:Nat)(w:World)(h:BRep w b F st):
  Calls Tryz.prog 139 #[.pointer (some ⟨b,0,none⟩),.int .u32 n] w (BRes w b F (if st.m.room<4 then none else some (.tuple #[],{ st with m:=st.m.put (leB 4 n) }))):=by
 by_cases hr:st.m.room<4
 ·rw[if_pos hr];exact h.liftF λY r c hb=>PlaceUOffsetT_dies b Y r _ _ _ c n w hb hr
 ·rw[if_neg hr];refine h.liftP (z:=4) (leB_length 4 n) λY r c hb=>?_;rw[<-leI_nat];exact PlaceUOffsetT_ok b Y r _ _ _ c n w hb (by omega)
def BSt.endVec(st:BSt)(n:Nat):Option (Nat × BSt) :=
 if st.nested then if st.m.room<4 then none else some (4+st.m.bytes.length,{ st with m:=st.m.put (leB 4 n),nested:=false }) else none
theorem EndVector_calls(b:Nat)(F:List Nat)(st:BSt)(n:Nat)(w:World)(h:BRep w b F st)(hn:n<=4000000):
  Calls Tryz.prog 80 #[.pointer (some ⟨b,0,none⟩),.int .i64 n] w (BRes w b F (numRes (st.endVec n))):=by
 have HA:=Hd (assertNested_calls b F st w h);have hmod:(n:Int)%4294967296=(n:Int):=by omega
 cases hne:st.nested with
 | false =>
  have e:numRes (st.endVec n)=none:=by unfold BSt.endVec numRes;rw[hne];rfl
  rw[e];rw[hne] at HA;clear h;go_enter Tryz.func80,Tryz.ntmps80;go_wp2_with fail;refine HA.out.mono ?_;rintro e w' ⟨⟨u,v,rfl⟩,rfl⟩;exact⟨rfl,⟨u,v,rfl⟩,Fr.refl _ _⟩
 | true =>
  rw[hne] at HA;have HP:=Hd (PlaceUOffsetT_b b F st n w h);by_cases hr:st.m.room<4
  ·have e:numRes (st.endVec n)=none:=by unfold BSt.endVec numRes;rw[hne,if_pos rfl,if_pos hr];rfl
   rw[e];rw[if_pos hr] at HP;clear h;go_enter Tryz.func80,Tryz.ntmps80;go_wp2_with fail;refine HA.out.mono ?_;rintro e w' ⟨rfl,rfl⟩;go_wp2_with fail;refine HP.out.mono ?_;rintro e w1 ⟨⟨u,v,rfl⟩,hf⟩;exact⟨rfl,⟨u,v,rfl⟩,hf⟩
  ·have e:numRes (st.endVec n)=some (.int .u32 (4+st.m.bytes.length:Nat),{ st with m:=st.m.put (leB 4 n),nested:=false }):=by unfold BSt.endVec numRes;rw[hne,if_pos rfl,if_neg hr];rfl
   rw[e];rw[if_neg hr] at HP;have hl:(st.m.put (leB 4 n)).bytes.length=4+st.m.bytes.length:=(by show (leB 4 n++st.m.bytes).length=_;rw[List.length_append,leB_length]);have HL:=Hd hl;clear h hl;go_enter Tryz.func80,Tryz.ntmps80;go_wp2_with fail;refine HA.out.mono ?_;rintro e w' ⟨rfl,rfl⟩;go_wp2_with fail;refine HP.out.mono ?_;rintro e w1 ⟨rfl,F1,hb1,ha1⟩;obtain⟨c6,_⟩:=hb1.cells;have f6:=hb1.frozen 6;have HB:=Hd (hb1.set6 false);have HAD:=Hd ha1;clear hb1 ha1;go_wp2_with fail;refine (Offset_b b F1 _ _ HB.out.1).mono ?_;rintro e w3 ⟨rfl,n3,rfl⟩;rw[HL.out];go_wp2_with fail;go_ret;exact⟨rfl,F1,HB.out.1.drewN _,(HAD.out.trans HB.out.2).drewN _⟩
theorem BRep.putAt{w:World}{b:Nat}{F:List Nat}{st:BSt}(h:BRep w b F st)(xs:List UInt8)(hz:xs.length<=st.m.room):
  ∃Y L c,Y∈F/\Y≠b/\w.cell? ⟨b,0,none⟩=some (.slice (some ⟨Y,0,none⟩) L (Array.size c))/\L=st.m.room+st.m.bytes.length/\L<=Array.size c/\L<=4000000/\w.heap[Y]?=some (.cells c 5) /\
   ∀nq,∃F',BRep (((w.setCell ⟨b,5,none⟩ (.int .u32 (st.m.room-xs.length:Nat))).drewN nq).setCells Y (st.m.room-xs.length) (cellsOf xs)) b F' { st with m:=st.m.put xs } /\
    Adv w (((w.setCell ⟨b,5,none⟩ (.int .u32 (st.m.room-xs.length:Nat))).drewN nq).setCells Y (st.m.room-xs.length) (cellsOf xs)) F F':=by
 obtain⟨Y,V,G,M,r,c,rfl,hb,ho⟩:=h;refine⟨Y,_,c,by simp,λe=>hb.ne e.symm,by rw[cell_of hb.hb];rfl,rfl,hb.fit,hb.lim,hb.hy,λnq=>?_⟩;obtain⟨h1,h2⟩:=hb.put xs hz nq;exact BRep.bytes hb ho (BBx.here ⟨_,h1⟩ h2)
theorem cellsOf_len(xs:List UInt8):(cellsOf xs).length=xs.length:=by simp[cellsOf]
def Src (w:World)(F:List Nat)(v:Value)(xs:List UInt8):Prop :=
 ∃B o cap,v=.slice (some ⟨B,o,none⟩) xs.length cap/\B<w.heap.size/\B ∉ F/\Mem w B o xs
theorem Src.adv{w w':World}{F F':List Nat}{v:Value}{xs:List UInt8}(h:Src w F v xs)(ha:Adv w w' F F'):Src w' F' v xs:=by
 obtain⟨B,o,cap,h1,h2,h3,h4⟩:=h;have hs:=ha.1.size;refine⟨B,o,cap,h1,by omega,λhm=>?_,λi x hx=>?_⟩
 ·rcases ha.2 B hm with h|h
  ·exact h3 h
  ·omega
 ·have:=h4 i x hx
  unfold World.cell? at this ⊢;rw[ha.1.block B h2 h3];exact this
theorem cell_setCell_other(w:World)(p q:Addr)(v:Value)(h:q.block≠p.block):(w.setCell p v).cell? q=w.cell? q:=by
 unfold World.cell?;have:(w.setCell p v).heap[q.block]?=w.heap[q.block]?:=Below.heap_setCell _ _ _ _ h
 rw[this]
def BSt.create(st:BSt)(xs:List UInt8)(zero:Bool):Option (Nat × BSt) :=
 BSt.endVec { st with m:=(if zero then (st.m.prep 4 (xs.length+1)).put [0] else st.m.prep 4 xs.length).put xs,nested:=true } xs.length
def BSt.created(st:BSt)(xs:List UInt8)(zero:Bool):Option (Nat × BSt):=if st.nested then none else st.create xs zero
theorem CreateString_calls(b:Nat)(F:List Nat)(st:BSt)(xs:List UInt8)(w:World)(h:BRep w b F st)(hx:xs.length<=100000)(hu:st.m.bytes.length<=1700000):
  Calls Tryz.prog 81 #[.pointer (some ⟨b,0,none⟩),.string (strOf xs)] w (BRes w b F (numRes (st.created xs true))):=by
 have HA:=Hd (assertNotNested_calls b F st w h);cases hne:st.nested with
 | true =>
  have e:numRes (st.created xs true)=none:=by unfold BSt.created numRes;rw[hne];rfl
  rw[e];rw[hne] at HA;clear h;go_enter Tryz.func81,Tryz.ntmps81;go_wp2_with fail;refine HA.out.mono ?_;rintro e w' ⟨⟨u,v,rfl⟩,rfl⟩;exact⟨rfl,⟨u,v,rfl⟩,Fr.refl _ _⟩
 | false =>
  have e:st.created xs true=st.create xs true:=by unfold BSt.created;rw[hne];rfl
  rw[e];rw[hne] at HA;obtain⟨c6,_⟩:=h.cells;have f6:=h.frozen 6;have HH:=Hd (h.set6 true);obtain⟨n,hn⟩:=exA (xs.length);have hmod:(n:Int)%4294967296=(n:Int):=by omega
  obtain⟨m1,hm1⟩:=exA (st.m.prep 4 (xs.length+1));have hroom:=st.m.prep_room 4 (xs.length+1);rw[<-hm1] at hroom;obtain⟨m2,hm2⟩:=exA (m1.put [0]);have hcr:st.create xs true=BSt.endVec { st with m:=m2.put xs,nested:=true } xs.length:=by unfold BSt.create;rw[hm2,hm1];rfl
  rw[hcr];rw[<-hn] at hx hroom ⊢;have hev:numRes (BSt.endVec { st with m:=m2.put xs,nested:=true } n)=some (.int .u32 (4+(m2.put xs).bytes.length:Nat),{ st with m:=(m2.put xs).put (leB 4 n),nested:=false }):=by
   have hm2r:m2.room=m1.room-1:=(by rw[hm2];rfl);unfold BSt.endVec numRes;rw[if_pos rfl,if_neg (by show ¬m2.room-xs.length<4;rw[<-hn];omega)];rfl
  rw[hev];have HEV:=Hd hev;clear hev;have HM1:=Hd hm1;have HM2:=Hd hm2;have HN:=Hd hn;have HR:=Hd hroom;have hsz:(strOf xs).size=n:=by rw[strOf_size,hn]
  have HS:=Hd hsz;obtain⟨S,hS⟩:=exA (strOf xs);have hszS:S.size=n:=by rw[hS];exact hsz
  rw[<-hS];have HSS:=Hd hS;clear hsz hS;obtain⟨q,hq⟩:=exA (n+1);have hqi:(n:Int)+1=(q:Int):=by omega
  have hqn:q<=100001:=by omega
  have HQ:=Hd hq;clear hq;clear h e hcr hm1 hm2 hroom hn;go_enter Tryz.func81,Tryz.ntmps81;go_wp2_with fail;refine HA.out.mono ?_;rintro e w' ⟨rfl,rfl⟩;go_wp2_with fail;refine (Prep_b b F _ 4 q _ HH.out.1 (by unfold algn;omega) (by show st.m.bytes.length+q<=_;omega)).mono ?_;rintro e w1 ⟨rfl,F1,hb1,ha1⟩;rw[HQ.out,HN.out,<-HM1.out] at hb1;have HAD1:=Hd (HH.out.2.trans ha1);have HB1:=Hd hb1;clear hb1 ha1;go_wp2_with fail;refine (BRep.liftP (xs:=leI 1 0) (z:=1) HB1.out (by rfl) (λY r c hb=>PlaceByte_ok b Y r _ _ _ c 0 (by decide) (by decide) w1 hb (by show 1<=m1.room;have:=HR.out;omega))).mono ?_;rintro e w2 ⟨rfl,F2,hb2,ha2⟩;rw[leI_zero] at hb2;have hb2':BRep w2 b F2 { st with m:=m2,nested:=true }:=by rw[HM2.out];exact hb2
  have HB2:=Hd hb2';have HAD2:=Hd (HAD1.out.trans ha2);clear hb2 hb2' ha2;have hz:xs.length<=m2.room:=by rw[<-HN.out];have:=HR.out;have hm2r:m2.room=m1.room-1:=(by rw[HM2.out];rfl);omega
  obtain⟨Y,L,c,hYF,hYb,d0,hL,hLc,hL4,hy,hput⟩:=HB2.out.putAt xs hz;obtain⟨room',hroom'⟩:∃room',room'=m2.room-xs.length:=⟨_,rfl⟩;have hput2:=hput;rw[show ({ st with m:=m2,nested:=true }:BSt).m.room-xs.length=room' from hroom'.symm] at hput2;have d5:=HB2.out.cells.2.2.2.1;have d5':w2.cell? ⟨b,5,none⟩=some (.int .u32 m2.room):=d5;have g5:=HB2.out.frozen 5;have hbk:∃cb,w2.heap[b]?=some (.cells cb 103)/\5<cb.size/\cb[0]?=some (.slice (some ⟨Y,0,none⟩) L c.size):=by
   obtain⟨Y',V,G,M,r,c',rfl,hb,ho⟩:=HB2.out;have:=cell_of hb.hb 0
   rw[d0] at this;exact⟨_,hb.hb,by simp[bCells],this.symm⟩
  obtain⟨cb,hcb,hcb5,hcb0⟩:=hbk;have hcb':=heap_setCell_same hcb 5 (.int .u32 (room':Nat));have e0:(w2.setCell ⟨b,5,none⟩ (.int .u32 (room':Nat))).cell? ⟨b,0,none⟩=some (.slice (some ⟨Y,0,none⟩) L c.size):=by
   rw[cell_of hcb',<-hcb0];simp
  have e5:(w2.setCell ⟨b,5,none⟩ (.int .u32 (room':Nat))).cell? ⟨b,5,none⟩=some (.int .u32 (room':Nat)):=by
   rw[cell_of hcb'];simp[hcb5]
  have hsub:((m2.room:Int)-(n:Int))%4294967296=(room':Int):=by rw[HN.out];have:({ st with m:=m2,nested:=true }:BSt).m.room=m2.room:=rfl;rw[this] at hL;omega
  have hL2:L=m2.room+m2.bytes.length:=hL;obtain⟨e2,he2⟩:=exA (room'+n);have hadd:((room':Int)+(n:Int))%4294967296=(e2:Int):=by rw[he2,HN.out];omega
  have hsl:=λw'=>run_slice_cut (P:=Tryz.prog) Tryz.underlying81 sizeU8b Y 0 L c.size .u32 .u32 (room':Int) (e2:Int) room' e2 rfl rfl (by omega) (by rw[he2,HN.out];omega) w';rw[show e2-room'=n by omega] at hsl;have hY1:∀nq,((w2.setCell ⟨b,5,none⟩ (.int .u32 (room':Nat))).drewN nq).heap[Y]?=some (.cells c 5):=λnq=>by
   show (w2.setCell ⟨b,5,none⟩ _).heap[Y]?=_;rw[heap_setCell_other _ _ _ _ hYb];exact hy
  have hcopy:∀nq ty,(Builtin.copy_ #[81,9] ty #[.slice (some ⟨Y,sOff 0 room' c.size,none⟩) n (c.size-room'),.string S]).run Tryz.prog ((w2.setCell ⟨b,5,none⟩ (.int .u32 (room':Nat))).drewN nq) =
    .ok (goInt n) (((w2.setCell ⟨b,5,none⟩ (.int .u32 (room':Nat))).drewN nq).setCells Y room' (cellsOf xs)):=by
   intro nq ty;have hoff:xs.length=0\/sOff 0 room' c.size=room':=by
    by_cases hx0:xs.length=0
    ·exact .inl hx0
    ·right;rw[sOff_lt (by omega),Nat.zero_add]
   rcases hoff with h0|h0
   ·have:=Go.run_copy_string (P:=Tryz.prog) ((w2.setCell ⟨b,5,none⟩ (.int .u32 (room':Nat))).drewN nq) 81 9 ty 5 Y (sOff 0 room' c.size) n (c.size-room') S Tryz.underlying81 (λw=>by
      obtain⟨i0,hi,hz0,hz1,hz2⟩:=info_parts' infoU8b;simp[sizeOf,typeInfo,hi,hz1]) (by rw[hszS];exact Nat.le_refl _) (λj hj=>by rw[hszS,HN.out] at hj;omega) (λj hj=>by rw[hszS,HN.out] at hj;omega)
    rw[this,hszS,HSS.out];have hxe:xs=[]:=List.eq_nil_of_length_eq_zero h0;subst hxe;rfl
   ·rw[h0];have:=Go.run_copy_string (P:=Tryz.prog) ((w2.setCell ⟨b,5,none⟩ (.int .u32 (room':Nat))).drewN nq) 81 9 ty 5 Y room' n (c.size-room') S Tryz.underlying81 (λw=>by
      obtain⟨i0,hi,hz0,hz1,hz2⟩:=info_parts' infoU8b;simp[sizeOf,typeInfo,hi,hz1]) (by rw[hszS];exact Nat.le_refl _) (λj hj=>by rw[cell_of (hY1 nq)];rw[hszS,HN.out] at hj;simp;omega) (λj hj=>frozen_of (hY1 nq) _)
    rw[this,hszS,HSS.out];rfl
  have HPUT:=Hd hput2;have HL:=Hd hL;clear he2 hput hput2 hL hLc hy hY1 hcb hcb' hcb5 hcb0 d5 hz hroom' hL2;go_wp2_with fail;refine lst _ ?_;simp only[List.dropLast];repeat (go_big_quiet_step (fail))
  refine wpQuiet_nil ?_;intro nq;refine wpOp_step rfl (λK hK=>?_);go_simp;refine hK _ _ ?_;obtain⟨F3,hb3,ha3⟩:=HPUT.out nq;generalize (((w2.setCell ⟨b,5,none⟩ (.int .u32 (room':Nat))).drewN nq).setCells Y room' (cellsOf xs))=w3 at *;have HB3:=Hd hb3;have HAD3:=Hd (HAD2.out.trans ha3);clear hb3 ha3 HPUT;go_wp2_with fail;refine (EndVector_calls b F3 _ n w3 HB3.out (by omega)).mono ?_;rw[HEV.out];rintro e w4 ⟨rfl,F4,hb4,ha4⟩;have HB4:=Hd hb4;have HAD4:=Hd (HAD3.out.trans ha4);clear hb4 ha4;go_wp2_with fail;go_ret;exact⟨rfl,F4,HB4.out,HAD4.out⟩
theorem CreateByteVector_calls(b:Nat)(F:List Nat)(st:BSt)(xs:List UInt8)(sv:Value)(w:World)(h:BRep w b F st)(hsv:Src w F sv xs)(hx:xs.length<=100000)(hu:st.m.bytes.length<=1700000):
  Calls Tryz.prog 83 #[.pointer (some ⟨b,0,none⟩),sv] w (BRes w b F (numRes (st.created xs false))):=by
 have HA:=Hd (assertNotNested_calls b F st w h);cases hne:st.nested with
 | true =>
  have e:numRes (st.created xs false)=none:=by unfold BSt.created numRes;rw[hne];rfl
  rw[e];rw[hne] at HA;clear h;go_enter Tryz.func83,Tryz.ntmps83;go_wp2_with fail;refine HA.out.mono ?_;rintro e w' ⟨⟨u,v,rfl⟩,rfl⟩;exact⟨rfl,⟨u,v,rfl⟩,Fr.refl _ _⟩
 | false =>
  have e:st.created xs false=st.create xs false:=by unfold BSt.created;rw[hne];rfl
  rw[e];rw[hne] at HA;obtain⟨c6,_⟩:=h.cells;have f6:=h.frozen 6;have HH:=Hd (h.set6 true);obtain⟨n,hn⟩:=exA (xs.length);have hmod:(n:Int)%4294967296=(n:Int):=by omega
  obtain⟨m1,hm1⟩:=exA (st.m.prep 4 (xs.length));have hroom:=st.m.prep_room 4 (xs.length);rw[<-hm1] at hroom;obtain⟨m2,hm2⟩:=exA (m1);have hcr:st.create xs false=BSt.endVec { st with m:=m2.put xs,nested:=true } xs.length:=by unfold BSt.create;rw[hm2,hm1];rfl
  rw[hcr];rw[<-hn] at hx hroom ⊢;have hev:numRes (BSt.endVec { st with m:=m2.put xs,nested:=true } n)=some (.int .u32 (4+(m2.put xs).bytes.length:Nat),{ st with m:=(m2.put xs).put (leB 4 n),nested:=false }):=by
   have hm2r:m2.room=m1.room:=(by rw[hm2]);unfold BSt.endVec numRes;rw[if_pos rfl,if_neg (by show ¬m2.room-xs.length<4;rw[<-hn];omega)];rfl
  rw[hev];have HEV:=Hd hev;clear hev;have HM1:=Hd hm1;have HM2:=Hd hm2;have HN:=Hd hn;have HR:=Hd hroom;have HSV:=Hd hsv;obtain⟨B,o,cap,hsve,hsvl,hsvF,hsvm⟩:=hsv;rw[<-hn] at hsve;rw[hsve];clear hsvl hsvF hsvm;clear h e hcr hm1 hm2 hroom hn;go_enter Tryz.func83,Tryz.ntmps83;go_wp2_with fail;refine HA.out.mono ?_;rintro e w' ⟨rfl,rfl⟩;go_wp2_with fail;refine (Prep_b b F _ 4 n _ HH.out.1 (by unfold algn;omega) (by show st.m.bytes.length+n<=_;omega)).mono ?_;rintro e w1 ⟨rfl,F1,hb1,ha1⟩;rw[HN.out,<-HM1.out] at hb1;have HAD1:=Hd (HH.out.2.trans ha1);have HB1:=Hd hb1;clear hb1 ha1;have hb2':BRep w1 b F1 { st with m:=m2,nested:=true }:=by rw[HM2.out];exact HB1.out
  have HB2:=Hd hb2';have HAD2:=HAD1;clear hb2';generalize w1=w2 at *;have hz:xs.length<=m2.room:=by rw[<-HN.out];have:=HR.out;have hm2r:m2.room=m1.room:=(by rw[HM2.out]);omega
  obtain⟨Y,L,c,hYF,hYb,d0,hL,hLc,hL4,hy,hput⟩:=HB2.out.putAt xs hz;obtain⟨room',hroom'⟩:∃room',room'=m2.room-xs.length:=⟨_,rfl⟩;have hput2:=hput;rw[show ({ st with m:=m2,nested:=true }:BSt).m.room-xs.length=room' from hroom'.symm] at hput2;have d5:=HB2.out.cells.2.2.2.1;have d5':w2.cell? ⟨b,5,none⟩=some (.int .u32 m2.room):=d5;have g5:=HB2.out.frozen 5;have hbk:∃cb,w2.heap[b]?=some (.cells cb 103)/\5<cb.size/\cb[0]?=some (.slice (some ⟨Y,0,none⟩) L c.size):=by
   obtain⟨Y',V,G,M,r,c',rfl,hb,ho⟩:=HB2.out;have:=cell_of hb.hb 0
   rw[d0] at this;exact⟨_,hb.hb,by simp[bCells],this.symm⟩
  obtain⟨cb,hcb,hcb5,hcb0⟩:=hbk;have hcb':=heap_setCell_same hcb 5 (.int .u32 (room':Nat));have e0:(w2.setCell ⟨b,5,none⟩ (.int .u32 (room':Nat))).cell? ⟨b,0,none⟩=some (.slice (some ⟨Y,0,none⟩) L c.size):=by
   rw[cell_of hcb',<-hcb0];simp
  have e5:(w2.setCell ⟨b,5,none⟩ (.int .u32 (room':Nat))).cell? ⟨b,5,none⟩=some (.int .u32 (room':Nat)):=by
   rw[cell_of hcb'];simp[hcb5]
  have hsub:((m2.room:Int)-(n:Int))%4294967296=(room':Int):=by rw[HN.out];have:({ st with m:=m2,nested:=true }:BSt).m.room=m2.room:=rfl;rw[this] at hL;omega
  have hL2:L=m2.room+m2.bytes.length:=hL;obtain⟨e2,he2⟩:=exA (room'+n);have hadd:((room':Int)+(n:Int))%4294967296=(e2:Int):=by rw[he2,HN.out];omega
  have hsl:=λw'=>run_slice_cut (P:=Tryz.prog) Tryz.underlying81 sizeU8b Y 0 L c.size .u32 .u32 (room':Int) (e2:Int) room' e2 rfl rfl (by omega) (by rw[he2,HN.out];omega) w';rw[show e2-room'=n by omega] at hsl;have hY1:∀nq,((w2.setCell ⟨b,5,none⟩ (.int .u32 (room':Nat))).drewN nq).heap[Y]?=some (.cells c 5):=λnq=>by
   show (w2.setCell ⟨b,5,none⟩ _).heap[Y]?=_;rw[heap_setCell_other _ _ _ _ hYb];exact hy
  have hcopy:∀nq ty,(Builtin.copy_ #[81,81] ty #[.slice (some ⟨Y,sOff 0 room' c.size,none⟩) n (c.size-room'),.slice (some ⟨B,o,none⟩) n cap]).run Tryz.prog ((w2.setCell ⟨b,5,none⟩ (.int .u32 (room':Nat))).drewN nq) =
    .ok (goInt n) (((w2.setCell ⟨b,5,none⟩ (.int .u32 (room':Nat))).drewN nq).setCells Y room' (cellsOf xs)):=by
   intro nq ty;have hoff:xs.length=0\/sOff 0 room' c.size=room':=by
    by_cases hx0:xs.length=0
    ·exact .inl hx0
    ·right;rw[sOff_lt (by omega),Nat.zero_add]
   obtain⟨B',o',cap',hve,hvl,hvF,hvm⟩:=HSV.out.adv HAD2.out;rw[hsve] at hve;injection hve with hv1 hv2 hv3;injection hv1 with hv1;injection hv1 with hv1 hv4;subst hv1 hv4;have hbF:=HB2.out.mem;have hsrc:∀j v,(cellsOf xs)[j]?=some v->((w2.setCell ⟨b,5,none⟩ (.int .u32 (room':Nat))).drewN nq).cell? ((⟨B,o,none⟩:Addr).add j)=some v:=by
    intro j v hj;have hadd:(⟨B,o,none⟩:Addr).add j=⟨B,o+j,none⟩:=by unfold Addr.add;split<;>simp_all
    rw[hadd];show (w2.setCell ⟨b,5,none⟩ (.int .u32 (room':Nat))).cell? _=_;rw[cell_setCell_other _ _ _ _ (show B≠b from λe=>hvF (e▸hbF))];unfold cellsOf at hj;rw[List.getElem?_map] at hj;cases hxj:xs[j]? with
    | none=>rw[hxj] at hj;cases hj
    | some x=>rw[hxj] at hj;injection hj with hj;rw[<-hj];exact hvm j x hxj
   have hone:∀v∈cellsOf xs,v.oneCell'=true:=cellsOf_one xs;rcases hoff with h0|h0
   ·have:=run_copy_cells (P:=Tryz.prog) ((w2.setCell ⟨b,5,none⟩ (.int .u32 (room':Nat))).drewN nq) 81 81 ty 5 Y (sOff 0 room' c.size) n (c.size-room') ⟨B,o,none⟩ n cap (cellsOf xs) Tryz.underlying81 sizeU8b (by rw[cellsOf_len,<-HN.out];show n=min n n;omega) hsrc (λj hj=>by rw[cellsOf_len] at hj;omega) (λj hj=>by rw[cellsOf_len] at hj;omega) hone
    rw[this,cellsOf_len,<-HN.out];have hxe:xs=[]:=List.eq_nil_of_length_eq_zero h0;subst hxe;rfl
   ·rw[h0];have:=run_copy_cells (P:=Tryz.prog) ((w2.setCell ⟨b,5,none⟩ (.int .u32 (room':Nat))).drewN nq) 81 81 ty 5 Y room' n (c.size-room') ⟨B,o,none⟩ n cap (cellsOf xs) Tryz.underlying81 sizeU8b (by rw[cellsOf_len,<-HN.out];show n=min n n;omega) hsrc (λj hj=>by rw[cell_of (hY1 nq)];rw[cellsOf_len] at hj;simp;omega) (λj hj=>frozen_of (hY1 nq) _) hone
    rw[this,cellsOf_len,<-HN.out]
  have HPUT:=Hd hput2;have HL:=Hd hL;clear he2 hput hput2 hL hLc hy hY1 hcb hcb' hcb5 hcb0 d5 hz hroom' hL2;go_wp2_with fail;refine lst _ ?_;simp only[List.dropLast];repeat (go_big_quiet_step (fail))
  refine wpQuiet_nil ?_;intro nq;refine wpOp_step rfl (λK hK=>?_);go_simp;refine hK _ _ ?_;obtain⟨F3,hb3,ha3⟩:=HPUT.out nq;generalize (((w2.setCell ⟨b,5,none⟩ (.int .u32 (room':Nat))).drewN nq).setCells Y room' (cellsOf xs))=w3 at *;have HB3:=Hd hb3;have HAD3:=Hd (HAD2.out.trans ha3);clear hb3 ha3 HPUT;go_wp2_with fail;refine (EndVector_calls b F3 _ n w3 HB3.out (by omega)).mono ?_;rw[HEV.out];rintro e w4 ⟨rfl,F4,hb4,ha4⟩;have HB4:=Hd hb4;have HAD4:=Hd (HAD3.out.trans ha4);clear hb4 ha4;go_wp2_with fail;go_ret;exact⟨rfl,F4,HB4.out,HAD4.out⟩
theorem Adv.falls{w w1 w2:World}{F F1:List Nat}{e:Ending}(h:Adv w w1 F F1)(k:Falls2 (λx=>x∈F1) w1 e w2):Falls2 (λx=>x∈F) w e w2:=by
 refine⟨k.1,h.1.trans2 k.2 (λi hi hm=>?_)⟩;rcases h.2 i hm with h|h
 ·exact h
 ·omega
def unitRes(o:Option BSt):Option (Value × BSt):=o.map λs=>(.tuple #[],s)
def BSt.prepSlot(st:BSt)(z:Nat)(xs:List UInt8)(i:Int)(same:Bool):Option BSt :=
 if same then some st else BSt.slot { st with m:=(st.m.prep z 0).put xs } i
theorem PrependUint8Slot_calls(b:Nat)(F:List Nat)(st:BSt)(i:Int)(x d:Int)(h0:0<=x)(h1:x<256)(q:Bool)(hq:(x==d)=q)(w:World)(h:BRep w b F st)(hu:st.m.bytes.length<=1900000):
  Calls Tryz.prog 129 #[.pointer (some ⟨b,0,none⟩),.int .i64 i,.int .u8 x,.int .u8 d] w (BRes w b F (unitRes (st.prepSlot 1 (leI 1 x) i q))):=by
 cases q with
 | true =>
  have HH:=Hd h;have hq2:(x != d)=false:=by simp only[bne,hq];rfl
  clear h;go_enter Tryz.func129,Tryz.ntmps129;go_wp2_with fail;go_end0
  exact⟨rfl,F,HH.out,Adv.refl _ _⟩
 | false =>
  have HP:=Hd (h.lift (m':=(st.m.prep 1 0).put (leI 1 x)) (λY r c hb=>PrependUint8_calls b Y r st.m c x h0 h1 w hb hu));have hq2:(x != d)=true:=by simp only[bne,hq];rfl
  have hs:(BSt.slot { st with m:=(st.m.prep 1 0).put (leI 1 x) } i=none)\/∃s,BSt.slot { st with m:=(st.m.prep 1 0).put (leI 1 x) } i=some s:=by
   cases BSt.slot { st with m:=(st.m.prep 1 0).put (leI 1 x) } i with
   | none=>exact .inl rfl
   | some s=>exact .inr ⟨s,rfl⟩
  show Calls _ _ _ _ (BRes w b F (unitRes (BSt.slot { st with m:=(st.m.prep 1 0).put (leI 1 x) } i)));clear h;rcases hs with hs|⟨s,hs⟩
  all_goals
   rw[hs];have HS:=Hd hs;clear hs;go_enter Tryz.func129,Tryz.ntmps129;go_wp2_with fail;refine HP.out.mono ?_;rintro e w1 ⟨rfl,F1,hb1,ha1⟩;have HC:=Hd (Slot_calls b F1 _ i w1 hb1);rw[HS.out] at HC;have HA:=Hd ha1;clear hb1 ha1;go_wp2_with fail
  ·refine HC.out.mono ?_;rintro e w2 ⟨⟨u,v,rfl⟩,hf⟩;exact⟨rfl,HA.out.falls ⟨⟨u,v,rfl⟩,hf⟩⟩
  ·refine HC.out.mono ?_;rintro e w2 ⟨rfl,F2,hb2,ha2⟩;have HB2:=Hd hb2;have HA2:=Hd ha2;clear hb2 ha2;go_wp2_with fail;go_end0
   exact⟨rfl,F2,HB2.out,HA.out.trans HA2.out⟩
theorem PrependByteSlot_calls(b:Nat)(F:List Nat)(st:BSt)(i:Int)(x d:Int)(h0:0<=x)(h1:x<256)(q:Bool)(hq:(x==d)=q)(w:World)(h:BRep w b F st)(hu:st.m.bytes.length<=1900000):
  Calls Tryz.prog 219 #[.pointer (some ⟨b,0,none⟩),.int .i64 i,.int .u8 x,.int .u8 d] w (BRes w b F (unitRes (st.prepSlot 1 (leI 1 x) i q))):=by
 cases q with
 | true =>
  have HH:=Hd h;have hq2:(x != d)=false:=by simp only[bne,hq];rfl
  clear h;go_enter Tryz.func219,Tryz.ntmps219;go_wp2_with fail;go_end0
  exact⟨rfl,F,HH.out,Adv.refl _ _⟩
 | false =>
  have HP:=Hd (h.lift (m':=(st.m.prep 1 0).put (leI 1 x)) (λY r c hb=>PrependByte_calls b Y r st.m c x h0 h1 w hb hu));have hq2:(x != d)=true:=by simp only[bne,hq];rfl
  have hs:(BSt.slot { st with m:=(st.m.prep 1 0).put (leI 1 x) } i=none)\/∃s,BSt.slot { st with m:=(st.m.prep 1 0).put (leI 1 x) } i=some s:=by
   cases BSt.slot { st with m:=(st.m.prep 1 0).put (leI 1 x) } i with
   | none=>exact .inl rfl
   | some s=>exact .inr ⟨s,rfl⟩
  show Calls _ _ _ _ (BRes w b F (unitRes (BSt.slot { st with m:=(st.m.prep 1 0).put (leI 1 x) } i)));clear h;rcases hs with hs|⟨s,hs⟩
  all_goals
   rw[hs];have HS:=Hd hs;clear hs;go_enter Tryz.func219,Tryz.ntmps219;go_wp2_with fail;refine HP.out.mono ?_;rintro e w1 ⟨rfl,F1,hb1,ha1⟩;have HC:=Hd (Slot_calls b F1 _ i w1 hb1);rw[HS.out] at HC;have HA:=Hd ha1;clear hb1 ha1;go_wp2_with fail
  ·refine HC.out.mono ?_;rintro e w2 ⟨⟨u,v,rfl⟩,hf⟩;exact⟨rfl,HA.out.falls ⟨⟨u,v,rfl⟩,hf⟩⟩
  ·refine HC.out.mono ?_;rintro e w2 ⟨rfl,F2,hb2,ha2⟩;have HB2:=Hd hb2;have HA2:=Hd ha2;clear hb2 ha2;go_wp2_with fail;go_end0
   exact⟨rfl,F2,HB2.out,HA.out.trans HA2.out⟩
theorem PrependInt8Slot_calls(b:Nat)(F:List Nat)(st:BSt)(i:Int)(x d:Int)(q:Bool)(hq:(x==d)=q)(w:World)(h:BRep w b F st)(hu:st.m.bytes.length<=1900000):
  Calls Tryz.prog 130 #[.pointer (some ⟨b,0,none⟩),.int .i64 i,.int .i8 x,.int .i8 d] w (BRes w b F (unitRes (st.prepSlot 1 (leI 1 x) i q))):=by
 cases q with
 | true =>
  have HH:=Hd h;have hq2:(x != d)=false:=by simp only[bne,hq];rfl
  clear h;go_enter Tryz.func130,Tryz.ntmps130;go_wp2_with fail;go_end0
  exact⟨rfl,F,HH.out,Adv.refl _ _⟩
 | false =>
  have HP:=Hd (h.lift (m':=(st.m.prep 1 0).put (leI 1 x)) (λY r c hb=>PrependInt8_calls b Y r st.m c x w hb hu));have hq2:(x != d)=true:=by simp only[bne,hq];rfl
  have hs:(BSt.slot { st with m:=(st.m.prep 1 0).put (leI 1 x) } i=none)\/∃s,BSt.slot { st with m:=(st.m.prep 1 0).put (leI 1 x) } i=some s:=by
   cases BSt.slot { st with m:=(st.m.prep 1 0).put (leI 1 x) } i with
   | none=>exact .inl rfl
   | some s=>exact .inr ⟨s,rfl⟩
  show Calls _ _ _ _ (BRes w b F (unitRes (BSt.slot { st with m:=(st.m.prep 1 0).put (leI 1 x) } i)));clear h;rcases hs with hs|⟨s,hs⟩
  all_goals
   rw[hs];have HS:=Hd hs;clear hs;go_enter Tryz.func130,Tryz.ntmps130;go_wp2_with fail;refine HP.out.mono ?_;rintro e w1 ⟨rfl,F1,hb1,ha1⟩;have HC:=Hd (Slot_calls b F1 _ i w1 hb1);rw[HS.out] at HC;have HA:=Hd ha1;clear hb1 ha1;go_wp2_with fail
  ·refine HC.out.mono ?_;rintro e w2 ⟨⟨u,v,rfl⟩,hf⟩;exact⟨rfl,HA.out.falls ⟨⟨u,v,rfl⟩,hf⟩⟩
  ·refine HC.out.mono ?_;rintro e w2 ⟨rfl,F2,hb2,ha2⟩;have HB2:=Hd hb2;have HA2:=Hd ha2;clear hb2 ha2;go_wp2_with fail;go_end0
   exact⟨rfl,F2,HB2.out,HA.out.trans HA2.out⟩
theorem PrependUint16Slot_calls(b:Nat)(F:List Nat)(st:BSt)(i:Int)(x d:Int)(q:Bool)(hq:(x==d)=q)(w:World)(h:BRep w b F st)(hu:st.m.bytes.length<=1900000):
  Calls Tryz.prog 131 #[.pointer (some ⟨b,0,none⟩),.int .i64 i,.int .u16 x,.int .u16 d] w (BRes w b F (unitRes (st.prepSlot 2 (leI 2 x) i q))):=by
 cases q with
 | true =>
  have HH:=Hd h;have hq2:(x != d)=false:=by simp only[bne,hq];rfl
  clear h;go_enter Tryz.func131,Tryz.ntmps131;go_wp2_with fail;go_end0
  exact⟨rfl,F,HH.out,Adv.refl _ _⟩
 | false =>
  have HP:=Hd (h.lift (m':=(st.m.prep 2 0).put (leI 2 x)) (λY r c hb=>PrependUint16_calls b Y r st.m c x w hb hu));have hq2:(x != d)=true:=by simp only[bne,hq];rfl
  have hs:(BSt.slot { st with m:=(st.m.prep 2 0).put (leI 2 x) } i=none)\/∃s,BSt.slot { st with m:=(st.m.prep 2 0).put (leI 2 x) } i=some s:=by
   cases BSt.slot { st with m:=(st.m.prep 2 0).put (leI 2 x) } i with
   | none=>exact .inl rfl
   | some s=>exact .inr ⟨s,rfl⟩
  show Calls _ _ _ _ (BRes w b F (unitRes (BSt.slot { st with m:=(st.m.prep 2 0).put (leI 2 x) } i)));clear h;rcases hs with hs|⟨s,hs⟩
  all_goals
   rw[hs];have HS:=Hd hs;clear hs;go_enter Tryz.func131,Tryz.ntmps131;go_wp2_with fail;refine HP.out.mono ?_;rintro e w1 ⟨rfl,F1,hb1,ha1⟩;have HC:=Hd (Slot_calls b F1 _ i w1 hb1);rw[HS.out] at HC;have HA:=Hd ha1;clear hb1 ha1;go_wp2_with fail
  ·refine HC.out.mono ?_;rintro e w2 ⟨⟨u,v,rfl⟩,hf⟩;exact⟨rfl,HA.out.falls ⟨⟨u,v,rfl⟩,hf⟩⟩
  ·refine HC.out.mono ?_;rintro e w2 ⟨rfl,F2,hb2,ha2⟩;have HB2:=Hd hb2;have HA2:=Hd ha2;clear hb2 ha2;go_wp2_with fail;go_end0
   exact⟨rfl,F2,HB2.out,HA.out.trans HA2.out⟩
theorem PrependInt16Slot_calls(b:Nat)(F:List Nat)(st:BSt)(i:Int)(x d:Int)(q:Bool)(hq:(x==d)=q)(w:World)(h:BRep w b F st)(hu:st.m.bytes.length<=1900000):
  Calls Tryz.prog 132 #[.pointer (some ⟨b,0,none⟩),.int .i64 i,.int .i16 x,.int .i16 d] w (BRes w b F (unitRes (st.prepSlot 2 (leI 2 x) i q))):=by
 cases q with
 | true =>
  have HH:=Hd h;have hq2:(x != d)=false:=by simp only[bne,hq];rfl
  clear h;go_enter Tryz.func132,Tryz.ntmps132;go_wp2_with fail;go_end0
  exact⟨rfl,F,HH.out,Adv.refl _ _⟩
 | false =>
  have HP:=Hd (h.lift (m':=(st.m.prep 2 0).put (leI 2 x)) (λY r c hb=>PrependInt16_calls b Y r st.m c x w hb hu));have hq2:(x != d)=true:=by simp only[bne,hq];rfl
  have hs:(BSt.slot { st with m:=(st.m.prep 2 0).put (leI 2 x) } i=none)\/∃s,BSt.slot { st with m:=(st.m.prep 2 0).put (leI 2 x) } i=some s:=by
   cases BSt.slot { st with m:=(st.m.prep 2 0).put (leI 2 x) } i with
   | none=>exact .inl rfl
   | some s=>exact .inr ⟨s,rfl⟩
  show Calls _ _ _ _ (BRes w b F (unitRes (BSt.slot { st with m:=(st.m.prep 2 0).put (leI 2 x) } i)));clear h;rcases hs with hs|⟨s,hs⟩
  all_goals
   rw[hs];have HS:=Hd hs;clear hs;go_enter Tryz.func132,Tryz.ntmps132;go_wp2_with fail;refine HP.out.mono ?_;rintro e w1 ⟨rfl,F1,hb1,ha1⟩;have HC:=Hd (Slot_calls b F1 _ i w1 hb1);rw[HS.out] at HC;have HA:=Hd ha1;clear hb1 ha1;go_wp2_with fail
  ·refine HC.out.mono ?_;rintro e w2 ⟨⟨u,v,rfl⟩,hf⟩;exact⟨rfl,HA.out.falls ⟨⟨u,v,rfl⟩,hf⟩⟩
  ·refine HC.out.mono ?_;rintro e w2 ⟨rfl,F2,hb2,ha2⟩;have HB2:=Hd hb2;have HA2:=Hd ha2;clear hb2 ha2;go_wp2_with fail;go_end0
   exact⟨rfl,F2,HB2.out,HA.out.trans HA2.out⟩
theorem PrependUint32Slot_calls(b:Nat)(F:List Nat)(st:BSt)(i:Int)(x d:Int)(q:Bool)(hq:(x==d)=q)(w:World)(h:BRep w b F st)(hu:st.m.bytes.length<=1900000):
  Calls Tryz.prog 133 #[.pointer (some ⟨b,0,none⟩),.int .i64 i,.int .u32 x,.int .u32 d] w (BRes w b F (unitRes (st.prepSlot 4 (leI 4 x) i q))):=by
 cases q with
 | true =>
  have HH:=Hd h;have hq2:(x != d)=false:=by simp only[bne,hq];rfl
  clear h;go_enter Tryz.func133,Tryz.ntmps133;go_wp2_with fail;go_end0
  exact⟨rfl,F,HH.out,Adv.refl _ _⟩
 | false =>
  have HP:=Hd (h.lift (m':=(st.m.prep 4 0).put (leI 4 x)) (λY r c hb=>PrependUint32_calls b Y r st.m c x w hb hu));have hq2:(x != d)=true:=by simp only[bne,hq];rfl
  have hs:(BSt.slot { st with m:=(st.m.prep 4 0).put (leI 4 x) } i=none)\/∃s,BSt.slot { st with m:=(st.m.prep 4 0).put (leI 4 x) } i=some s:=by
   cases BSt.slot { st with m:=(st.m.prep 4 0).put (leI 4 x) } i with
   | none=>exact .inl rfl
   | some s=>exact .inr ⟨s,rfl⟩
  show Calls _ _ _ _ (BRes w b F (unitRes (BSt.slot { st with m:=(st.m.prep 4 0).put (leI 4 x) } i)));clear h;rcases hs with hs|⟨s,hs⟩
  all_goals
   rw[hs];have HS:=Hd hs;clear hs;go_enter Tryz.func133,Tryz.ntmps133;go_wp2_with fail;refine HP.out.mono ?_;rintro e w1 ⟨rfl,F1,hb1,ha1⟩;have HC:=Hd (Slot_calls b F1 _ i w1 hb1);rw[HS.out] at HC;have HA:=Hd ha1;clear hb1 ha1;go_wp2_with fail
  ·refine HC.out.mono ?_;rintro e w2 ⟨⟨u,v,rfl⟩,hf⟩;exact⟨rfl,HA.out.falls ⟨⟨u,v,rfl⟩,hf⟩⟩
  ·refine HC.out.mono ?_;rintro e w2 ⟨rfl,F2,hb2,ha2⟩;have HB2:=Hd hb2;have HA2:=Hd ha2;clear hb2 ha2;go_wp2_with fail;go_end0
   exact⟨rfl,F2,HB2.out,HA.out.trans HA2.out⟩
theorem PrependInt32Slot_calls(b:Nat)(F:List Nat)(st:BSt)(i:Int)(x d:Int)(q:Bool)(hq:(x==d)=q)(w:World)(h:BRep w b F st)(hu:st.m.bytes.length<=1900000):
  Calls Tryz.prog 134 #[.pointer (some ⟨b,0,none⟩),.int .i64 i,.int .i32 x,.int .i32 d] w (BRes w b F (unitRes (st.prepSlot 4 (leI 4 x) i q))):=by
 cases q with
 | true =>
  have HH:=Hd h;have hq2:(x != d)=false:=by simp only[bne,hq];rfl
  clear h;go_enter Tryz.func134,Tryz.ntmps134;go_wp2_with fail;go_end0
  exact⟨rfl,F,HH.out,Adv.refl _ _⟩
 | false =>
  have HP:=Hd (h.lift (m':=(st.m.prep 4 0).put (leI 4 x)) (λY r c hb=>PrependInt32_calls b Y r st.m c x w hb hu));have hq2:(x != d)=true:=by simp only[bne,hq];rfl
  have hs:(BSt.slot { st with m:=(st.m.prep 4 0).put (leI 4 x) } i=none)\/∃s,BSt.slot { st with m:=(st.m.prep 4 0).put (leI 4 x) } i=some s:=by
   cases BSt.slot { st with m:=(st.m.prep 4 0).put (leI 4 x) } i with
   | none=>exact .inl rfl
   | some s=>exact .inr ⟨s,rfl⟩
  show Calls _ _ _ _ (BRes w b F (unitRes (BSt.slot { st with m:=(st.m.prep 4 0).put (leI 4 x) } i)));clear h;rcases hs with hs|⟨s,hs⟩
  all_goals
   rw[hs];have HS:=Hd hs;clear hs;go_enter Tryz.func134,Tryz.ntmps134;go_wp2_with fail;refine HP.out.mono ?_;rintro e w1 ⟨rfl,F1,hb1,ha1⟩;have HC:=Hd (Slot_calls b F1 _ i w1 hb1);rw[HS.out] at HC;have HA:=Hd ha1;clear hb1 ha1;go_wp2_with fail
  ·refine HC.out.mono ?_;rintro e w2 ⟨⟨u,v,rfl⟩,hf⟩;exact⟨rfl,HA.out.falls ⟨⟨u,v,rfl⟩,hf⟩⟩
  ·refine HC.out.mono ?_;rintro e w2 ⟨rfl,F2,hb2,ha2⟩;have HB2:=Hd hb2;have HA2:=Hd ha2;clear hb2 ha2;go_wp2_with fail;go_end0
   exact⟨rfl,F2,HB2.out,HA.out.trans HA2.out⟩
theorem PrependUint64Slot_calls(b:Nat)(F:List Nat)(st:BSt)(i:Int)(x d:Int)(q:Bool)(hq:(x==d)=q)(w:World)(h:BRep w b F st)(hu:st.m.bytes.length<=1900000):
  Calls Tryz.prog 135 #[.pointer (some ⟨b,0,none⟩),.int .i64 i,.int .u64 x,.int .u64 d] w (BRes w b F (unitRes (st.prepSlot 8 (leI 8 x) i q))):=by
 cases q with
 | true =>
  have HH:=Hd h;have hq2:(x != d)=false:=by simp only[bne,hq];rfl
  clear h;go_enter Tryz.func135,Tryz.ntmps135;go_wp2_with fail;go_end0
  exact⟨rfl,F,HH.out,Adv.refl _ _⟩
 | false =>
  have HP:=Hd (h.lift (m':=(st.m.prep 8 0).put (leI 8 x)) (λY r c hb=>PrependUint64_calls b Y r st.m c x w hb hu));have hq2:(x != d)=true:=by simp only[bne,hq];rfl
  have hs:(BSt.slot { st with m:=(st.m.prep 8 0).put (leI 8 x) } i=none)\/∃s,BSt.slot { st with m:=(st.m.prep 8 0).put (leI 8 x) } i=some s:=by
   cases BSt.slot { st with m:=(st.m.prep 8 0).put (leI 8 x) } i with
   | none=>exact .inl rfl
   | some s=>exact .inr ⟨s,rfl⟩
  show Calls _ _ _ _ (BRes w b F (unitRes (BSt.slot { st with m:=(st.m.prep 8 0).put (leI 8 x) } i)));clear h;rcases hs with hs|⟨s,hs⟩
  all_goals
   rw[hs];have HS:=Hd hs;clear hs;go_enter Tryz.func135,Tryz.ntmps135;go_wp2_with fail;refine HP.out.mono ?_;rintro e w1 ⟨rfl,F1,hb1,ha1⟩;have HC:=Hd (Slot_calls b F1 _ i w1 hb1);rw[HS.out] at HC;have HA:=Hd ha1;clear hb1 ha1;go_wp2_with fail
  ·refine HC.out.mono ?_;rintro e w2 ⟨⟨u,v,rfl⟩,hf⟩;exact⟨rfl,HA.out.falls ⟨⟨u,v,rfl⟩,hf⟩⟩
  ·refine HC.out.mono ?_;rintro e w2 ⟨rfl,F2,hb2,ha2⟩;have HB2:=Hd hb2;have HA2:=Hd ha2;clear hb2 ha2;go_wp2_with fail;go_end0
   exact⟨rfl,F2,HB2.out,HA.out.trans HA2.out⟩
theorem PrependInt64Slot_calls(b:Nat)(F:List Nat)(st:BSt)(i:Int)(x d:Int)(q:Bool)(hq:(x==d)=q)(w:World)(h:BRep w b F st)(hu:st.m.bytes.length<=1900000):
  Calls Tryz.prog 136 #[.pointer (some ⟨b,0,none⟩),.int .i64 i,.int .i64 x,.int .i64 d] w (BRes w b F (unitRes (st.prepSlot 8 (leI 8 x) i q))):=by
 cases q with
 | true =>
  have HH:=Hd h;have hq2:(x != d)=false:=by simp only[bne,hq];rfl
  clear h;go_enter Tryz.func136,Tryz.ntmps136;go_wp2_with fail;go_end0
  exact⟨rfl,F,HH.out,Adv.refl _ _⟩
 | false =>
  have HP:=Hd (h.lift (m':=(st.m.prep 8 0).put (leI 8 x)) (λY r c hb=>PrependInt64_calls b Y r st.m c x w hb hu));have hq2:(x != d)=true:=by simp only[bne,hq];rfl
  have hs:(BSt.slot { st with m:=(st.m.prep 8 0).put (leI 8 x) } i=none)\/∃s,BSt.slot { st with m:=(st.m.prep 8 0).put (leI 8 x) } i=some s:=by
   cases BSt.slot { st with m:=(st.m.prep 8 0).put (leI 8 x) } i with
   | none=>exact .inl rfl
   | some s=>exact .inr ⟨s,rfl⟩
  show Calls _ _ _ _ (BRes w b F (unitRes (BSt.slot { st with m:=(st.m.prep 8 0).put (leI 8 x) } i)));clear h;rcases hs with hs|⟨s,hs⟩
  all_goals
   rw[hs];have HS:=Hd hs;clear hs;go_enter Tryz.func136,Tryz.ntmps136;go_wp2_with fail;refine HP.out.mono ?_;rintro e w1 ⟨rfl,F1,hb1,ha1⟩;have HC:=Hd (Slot_calls b F1 _ i w1 hb1);rw[HS.out] at HC;have HA:=Hd ha1;clear hb1 ha1;go_wp2_with fail
  ·refine HC.out.mono ?_;rintro e w2 ⟨⟨u,v,rfl⟩,hf⟩;exact⟨rfl,HA.out.falls ⟨⟨u,v,rfl⟩,hf⟩⟩
  ·refine HC.out.mono ?_;rintro e w2 ⟨rfl,F2,hb2,ha2⟩;have HB2:=Hd hb2;have HA2:=Hd ha2;clear hb2 ha2;go_wp2_with fail;go_end0
   exact⟨rfl,F2,HB2.out,HA.out.trans HA2.out⟩
theorem PrependFloat32Slot_calls(b:Nat)(F:List Nat)(st:BSt)(i:Int)(x d:Nat)(q:Bool)(hq:(Op.floatEq .f32 x d)=q)(w:World)(h:BRep w b F st)(hu:st.m.bytes.length<=1900000):
  Calls Tryz.prog 137 #[.pointer (some ⟨b,0,none⟩),.int .i64 i,.float .f32 x,.float .f32 d] w (BRes w b F (unitRes (st.prepSlot 4 (leI 4 x) i q))):=by
 cases q with
 | true =>
  have HH:=Hd h;have hq1:(FloatKind.f32.format.order x d==some .eq)=true:=hq;have hq2:(FloatKind.f32.format.order x d != some .eq)=false:=by simp only[bne,hq1];rfl
  clear h hq;go_enter Tryz.func137,Tryz.ntmps137;go_wp2_with fail;go_end0
  exact⟨rfl,F,HH.out,Adv.refl _ _⟩
 | false =>
  have HP:=Hd (h.lift (m':=(st.m.prep 4 0).put (leI 4 x)) (λY r c hb=>PrependFloat32_calls b Y r st.m c x w hb hu));have hq1:(FloatKind.f32.format.order x d==some .eq)=false:=hq;have hq2:(FloatKind.f32.format.order x d != some .eq)=true:=by simp only[bne,hq1];rfl
  have hs:(BSt.slot { st with m:=(st.m.prep 4 0).put (leI 4 x) } i=none)\/∃s,BSt.slot { st with m:=(st.m.prep 4 0).put (leI 4 x) } i=some s:=by
   cases BSt.slot { st with m:=(st.m.prep 4 0).put (leI 4 x) } i with
   | none=>exact .inl rfl
   | some s=>exact .inr ⟨s,rfl⟩
  show Calls _ _ _ _ (BRes w b F (unitRes (BSt.slot { st with m:=(st.m.prep 4 0).put (leI 4 x) } i)));clear h hq;rcases hs with hs|⟨s,hs⟩
  all_goals
   rw[hs];have HS:=Hd hs;clear hs;go_enter Tryz.func137,Tryz.ntmps137;go_wp2_with fail;refine HP.out.mono ?_;rintro e w1 ⟨rfl,F1,hb1,ha1⟩;have HC:=Hd (Slot_calls b F1 _ i w1 hb1);rw[HS.out] at HC;have HA:=Hd ha1;clear hb1 ha1;go_wp2_with fail
  ·refine HC.out.mono ?_;rintro e w2 ⟨⟨u,v,rfl⟩,hf⟩;exact⟨rfl,HA.out.falls ⟨⟨u,v,rfl⟩,hf⟩⟩
  ·refine HC.out.mono ?_;rintro e w2 ⟨rfl,F2,hb2,ha2⟩;have HB2:=Hd hb2;have HA2:=Hd ha2;clear hb2 ha2;go_wp2_with fail;go_end0
   exact⟨rfl,F2,HB2.out,HA.out.trans HA2.out⟩
theorem PrependFloat64Slot_calls(b:Nat)(F:List Nat)(st:BSt)(i:Int)(x d:Nat)(q:Bool)(hq:(Op.floatEq .f64 x d)=q)(w:World)(h:BRep w b F st)(hu:st.m.bytes.length<=1900000):
  Calls Tryz.prog 138 #[.pointer (some ⟨b,0,none⟩),.int .i64 i,.float .f64 x,.float .f64 d] w (BRes w b F (unitRes (st.prepSlot 8 (leI 8 x) i q))):=by
 cases q with
 | true =>
  have HH:=Hd h;have hq1:(FloatKind.f64.format.order x d==some .eq)=true:=hq;have hq2:(FloatKind.f64.format.order x d != some .eq)=false:=by simp only[bne,hq1];rfl
  clear h hq;go_enter Tryz.func138,Tryz.ntmps138;go_wp2_with fail;go_end0
  exact⟨rfl,F,HH.out,Adv.refl _ _⟩
 | false =>
  have HP:=Hd (h.lift (m':=(st.m.prep 8 0).put (leI 8 x)) (λY r c hb=>PrependFloat64_calls b Y r st.m c x w hb hu));have hq1:(FloatKind.f64.format.order x d==some .eq)=false:=hq;have hq2:(FloatKind.f64.format.order x d != some .eq)=true:=by simp only[bne,hq1];rfl
  have hs:(BSt.slot { st with m:=(st.m.prep 8 0).put (leI 8 x) } i=none)\/∃s,BSt.slot { st with m:=(st.m.prep 8 0).put (leI 8 x) } i=some s:=by
   cases BSt.slot { st with m:=(st.m.prep 8 0).put (leI 8 x) } i with
   | none=>exact .inl rfl
   | some s=>exact .inr ⟨s,rfl⟩
  show Calls _ _ _ _ (BRes w b F (unitRes (BSt.slot { st with m:=(st.m.prep 8 0).put (leI 8 x) } i)));clear h hq;rcases hs with hs|⟨s,hs⟩
  all_goals
   rw[hs];have HS:=Hd hs;clear hs;go_enter Tryz.func138,Tryz.ntmps138;go_wp2_with fail;refine HP.out.mono ?_;rintro e w1 ⟨rfl,F1,hb1,ha1⟩;have HC:=Hd (Slot_calls b F1 _ i w1 hb1);rw[HS.out] at HC;have HA:=Hd ha1;clear hb1 ha1;go_wp2_with fail
  ·refine HC.out.mono ?_;rintro e w2 ⟨⟨u,v,rfl⟩,hf⟩;exact⟨rfl,HA.out.falls ⟨⟨u,v,rfl⟩,hf⟩⟩
  ·refine HC.out.mono ?_;rintro e w2 ⟨rfl,F2,hb2,ha2⟩;have HB2:=Hd hb2;have HA2:=Hd ha2;clear hb2 ha2;go_wp2_with fail;go_end0
   exact⟨rfl,F2,HB2.out,HA.out.trans HA2.out⟩
theorem PrependBoolSlot_calls(b:Nat)(F:List Nat)(st:BSt)(i:Int)(x d:Bool)(w:World)(h:BRep w b F st)(hu:st.m.bytes.length<=1900000):
  Calls Tryz.prog 128 #[.pointer (some ⟨b,0,none⟩),.int .i64 i,.bool x,.bool d] w (BRes w b F (unitRes (st.prepSlot 1 (leI 1 (b01 x)) i (x==d)))):=by
 have hs:st.prepSlot 1 (leI 1 (b01 x)) i (x==d)=none\/∃s,st.prepSlot 1 (leI 1 (b01 x)) i (x==d)=some s:=by
  cases st.prepSlot 1 (leI 1 (b01 x)) i (x==d) with
  | none=>exact .inl rfl
  | some s=>exact .inr ⟨s,rfl⟩
 have HB:=Hd (λw h=>PrependByteSlot_calls b F st i (b01 x) (b01 d) (by cases x<;>decide) (by cases x<;>decide) (x==d) (by cases x<;>cases d<;>rfl) w h hu);have HH:=Hd h;clear h hu;rcases hs with hs|⟨s,hs⟩
 all_goals
  rw[hs] at HB ⊢;clear hs;cases x<;>cases d
 all_goals
  go_enter Tryz.func128,Tryz.ntmps128;go_wp2_with fail;refine (HB.out _ HH.out).mono ?_
 all_goals first
  | (rintro e w2 ⟨⟨u,v,rfl⟩,hf⟩
     exact⟨rfl,⟨u,v,rfl⟩,hf⟩)
  | (rintro e w2 ⟨rfl,F2,hb2,ha2⟩
     have HB2:=Hd hb2;have HA2:=Hd ha2;clear hb2 ha2;go_wp2_with fail;go_end0
     exact⟨rfl,F2,HB2.out,HA2.out⟩)
def BSt.refer(st:BSt)(off:Nat):Option BSt:=(st.m.refer off).map λm=>{ st with m:=m }
theorem unitRes_refer(st:BSt)(off:Nat):unitRes (st.refer off)=(st.m.refer off).map λm'=>(.tuple #[],{ st with m:=m' }):=by
 unfold unitRes BSt.refer;cases st.m.refer off<;>rfl
theorem PrependUOffsetT_b(b:Nat)(F:List Nat)(st:BSt)(off:Nat)(w:World)(h:BRep w b F st)(hu:st.m.bytes.length<=1900000)(ho:off<4294967296):
  Calls Tryz.prog 73 #[.pointer (some ⟨b,0,none⟩),.int .u32 off] w (BRes w b F (unitRes (st.refer off))):=by
 rw[unitRes_refer];exact h.liftO λY r c hb=>PrependUOffsetT_calls b Y r st.m c off w hb hu ho
def BSt.offSlot(st:BSt)(i:Int)(off d:Nat):Option BSt :=
 if off=d then some st else (st.refer off).bind λs=>s.slot i
theorem PrependUOffsetTSlot_calls(b:Nat)(F:List Nat)(st:BSt)(i:Int)(off d:Nat)(w:World)(h:BRep w b F st)(hu:st.m.bytes.length<=1900000)(ho:off<4294967296):
  Calls Tryz.prog 74 #[.pointer (some ⟨b,0,none⟩),.int .i64 i,.int .u32 off,.int .u32 d] w (BRes w b F (unitRes (st.offSlot i off d))):=by
 by_cases hd:off=d
 ·have e:st.offSlot i off d=some st:=if_pos hd;rw[e];subst hd;have HH:=Hd h;clear h e;go_enter Tryz.func74,Tryz.ntmps74;go_wp2_with fail;go_end0
  exact⟨rfl,F,HH.out,Adv.refl _ _⟩
 ·have e:st.offSlot i off d=(st.refer off).bind λs=>s.slot i:=if_neg hd;rw[e];have HP:=Hd (PrependUOffsetT_b b F st off w h hu ho);have hq1:((off:Int)==(d:Int))=false:=by rw[beq_eq_false_iff_ne];omega
  have hq2:((off:Int) != (d:Int))=true:=by simp only[bne,hq1];rfl
  have hq3:(off==d)=false:=by rw[beq_eq_false_iff_ne];exact hd
  have hq4:(off != d)=true:=by simp only[bne,hq3];rfl
  clear h e hd;cases hr:st.refer off with
  | none =>
   rw[hr] at HP;clear hr;go_enter Tryz.func74,Tryz.ntmps74;go_wp2_with fail;refine HP.out.mono ?_;rintro e w2 ⟨⟨u,v,rfl⟩,hf⟩;exact⟨rfl,⟨u,v,rfl⟩,hf⟩
  | some s1 =>
   rw[hr] at HP;clear hr;show Calls _ _ _ _ (BRes w b F (unitRes (s1.slot i)));have hs:s1.slot i=none\/∃s,s1.slot i=some s:=by
    cases s1.slot i with
    | none=>exact .inl rfl
    | some s=>exact .inr ⟨s,rfl⟩
   rcases hs with hs|⟨s,hs⟩
   all_goals
    rw[hs];have HS:=Hd hs;clear hs;go_enter Tryz.func74,Tryz.ntmps74;go_wp2_with fail;refine HP.out.mono ?_;rintro e w1 ⟨rfl,F1,hb1,ha1⟩;have HC:=Hd (Slot_calls b F1 _ i w1 hb1);rw[HS.out] at HC;have HA:=Hd ha1;clear hb1 ha1;go_wp2_with fail
   ·refine HC.out.mono ?_;rintro e w2 ⟨⟨u,v,rfl⟩,hf⟩;exact⟨rfl,HA.out.falls ⟨⟨u,v,rfl⟩,hf⟩⟩
   ·refine HC.out.mono ?_;rintro e w2 ⟨rfl,F2,hb2,ha2⟩;have HB2:=Hd hb2;have HA2:=Hd ha2;clear hb2 ha2;go_wp2_with fail;go_end0
    exact⟨rfl,F2,HB2.out,HA.out.trans HA2.out⟩
def BSt.structSlot(st:BSt)(i:Int)(off d:Nat):Option BSt :=
 if off=d then some st else if st.nested then if off=st.m.bytes.length then st.slot i else none else none
theorem PrependStructSlot_calls(b:Nat)(F:List Nat)(st:BSt)(i:Int)(off d:Nat)(w:World)(h:BRep w b F st):
  Calls Tryz.prog 77 #[.pointer (some ⟨b,0,none⟩),.int .i64 i,.int .u32 off,.int .u32 d] w (BRes w b F (unitRes (st.structSlot i off d))):=by
 have HH:=Hd h;by_cases hd:off=d
 ·have e:st.structSlot i off d=some st:=if_pos hd;rw[e];subst hd;clear h e;go_enter Tryz.func77,Tryz.ntmps77;go_wp2_with fail;go_end0
  exact⟨rfl,F,HH.out,Adv.refl _ _⟩
 ·have e:st.structSlot i off d=if st.nested then if off=st.m.bytes.length then st.slot i else none else none:=if_neg hd;rw[e];have HN:=Hd (assertNested_calls b F st w h);have HO:=Hd (Offset_b b F st w h);have HL:=Hd (λn=>Slot_calls b F st i (w.drewN n) (h.drewN n));have hq1:((off:Int)==(d:Int))=false:=by rw[beq_eq_false_iff_ne];omega
  have hq2:((off:Int) != (d:Int))=true:=by simp only[bne,hq1];rfl
  have hq3:(off==d)=false:=by rw[beq_eq_false_iff_ne];exact hd
  have hq4:(off != d)=true:=by simp only[bne,hq3];rfl
  clear h e hd;cases hn:st.nested with
  | false =>
   rw[hn] at HN;clear hn;go_enter Tryz.func77,Tryz.ntmps77;go_wp2_with fail;refine HN.out.mono ?_;rintro e w2 ⟨⟨u,v,rfl⟩,rfl⟩;exact⟨rfl,⟨u,v,rfl⟩,Fr.refl _ _⟩
  | true =>
   rw[hn] at HN;clear hn;rw[if_pos rfl];obtain⟨len,hlen⟩:=exA (st.m.bytes.length);rw[<-hlen] at HO ⊢;clear hlen;by_cases hl:off=len
   ·rw[if_pos hl];subst hl;have hs:st.slot i=none\/∃s,st.slot i=some s:=by
     cases st.slot i with
     | none=>exact .inl rfl
     | some s=>exact .inr ⟨s,rfl⟩
    rcases hs with hs|⟨s,hs⟩
    all_goals
     rw[hs] at HL ⊢;clear hs;go_enter Tryz.func77,Tryz.ntmps77;go_wp2_with fail;refine HN.out.mono ?_;rintro e w' ⟨rfl,rfl⟩;go_wp2_with fail;refine HO.out.mono ?_;rintro e w1 ⟨rfl,n,rfl⟩;go_wp2_with fail;refine (HL.out n).mono ?_
    ·rintro e w2 ⟨⟨u,v,rfl⟩,hf⟩;exact⟨rfl,⟨u,v,rfl⟩,hf.fromDrewN⟩
    ·rintro e w2 ⟨rfl,F2,hb2,ha2⟩;have HB2:=Hd hb2;have HA2:=Hd ha2;clear hb2 ha2;go_wp2_with fail;go_end0
     exact⟨rfl,F2,HB2.out,HA2.out.of_drewN⟩
   ·rw[if_neg hl];have hr1:((off:Int)==(len:Int))=false:=(by rw[beq_eq_false_iff_ne];omega);have hr2:((off:Int) != (len:Int))=true:=(by simp only[bne,hr1];rfl);have hr3:(off==len)=false:=(by rw[beq_eq_false_iff_ne];exact hl);have hr4:(off != len)=true:=(by simp only[bne,hr3];rfl);clear hl;go_enter Tryz.func77,Tryz.ntmps77;go_wp2_with fail;refine HN.out.mono ?_;rintro e w' ⟨rfl,rfl⟩;go_wp2_with fail;refine HO.out.mono ?_;rintro e w1 ⟨rfl,n,rfl⟩;go_wp2_with fail;exact⟨rfl,⟨_,_,rfl⟩,(Fr.refl _ _).drewN _⟩
theorem sizeU32o:(Tryz.prog.info? 98).map (·.size)=some 1:=by kernel_rfl
theorem BOther.kept{w w':World}{b Y V G M:Nat}{r:BRest}{st:BSt}{c:Array Value}{S:Nat->Prop}(hb:BBm w b Y r st.m c)(ho:BOther w b V G M r st)(hf:Fr S w w')(hS:∀k,S k->k=b\/k=Y):BOther w' b V G M r st:=by
 have hvt:=ho.vt;have hsh:=ho.sh;exact ho.fr hf (λhv=>by
  cases hc:st.vtab with
  | none=>exact absurd hc hv
  | some l =>
   rw[hc] at hvt;intro hs;rcases hS _ hs with e|e
   ·exact OffRow.ne_of hvt hb.hb (by decide) e
   ·exact OffRow.ne_of hvt hb.hy (by decide) e) (λhs=>by
   rcases hS _ hs with e|e
   ·exact ho.vs.ne_of hb.hb (by decide) e
   ·exact ho.vs.ne_of hb.hy (by decide) e) (λhs=>by
  cases hc:st.shared with
  | none=>exact absurd hc hs
  | some D =>
   rw[hc] at hsh;intro hs;rcases hS _ hs with e|e
   ·exact ShRep.ne_of hsh hb.hb e
   ·exact ShRep.ne_of hsh hb.hy e)
theorem BRep.set3{w:World}{b:Nat}{F:List Nat}{st:BSt}(h:BRep w b F st)(x:Nat):BRep (w.setCell ⟨b,3,none⟩ (.int .u32 x)) b F { st with oend:=x }/\Adv w (w.setCell ⟨b,3,none⟩ (.int .u32 x)) F F:=by
 have hm:=h.mem;obtain⟨Y,V,G,M,r,c,rfl,hb,ho⟩:=h;have hf:Fr (λk=>k=b) w (w.setCell ⟨b,3,none⟩ (.int .u32 x)):=(Fr.refl (λk=>k=b) w).setCell (λ_=>rfl) _;have ho2:=ho.kept hb hf (λk h=>.inl h);refine⟨⟨Y,V,G,M,{ r with v3:=.int .u32 x },c,rfl,⟨heap_setCell_same hb.hb 3 (.int .u32 x),?_,hb.fit,hb.eq,hb.lim,hb.ne,hb.cap,hb.one,hb.zero⟩,⟨ho2.vt,rfl,ho2.vs,ho2.ne,ho2.fi,ho2.sh,ho2.vg⟩⟩,hf.mono (λi _ hi=>by subst hi;exact hm),λk hk=>.inl hk⟩;rw[heap_setCell_other _ _ _ _ (show Y≠b from λe=>hb.ne e.symm)];exact hb.hy
theorem BRep.vtother{w w':World}{b Y V V' G M:Nat}{r:BRest}{st:BSt}{c:Array Value}{v:Value}{l:List Nat}(hb:BBm w b Y r st.m c)(ho:BOther w b V G M r st)
  (hf:Fr (λk=>k=b\/k=V') w w') (hV':w.heap.size<=V'\/(V'=V/\st.vtab≠none)) (hbb:w'.heap[b]?=some (.cells ((bCells Y (st.m.room+st.m.bytes.length) c.size st.m.least st.m.room r).setIfInBounds 2 v) 103)) (hrow:OffRow w' V' v l):
  BRep w' b [b,Y,V',G,M] { st with vtab:=some l }/\Adv w w' [b,Y,V,G,M] [b,Y,V',G,M]:=by
 have hbl:=lt_of_block hb.hb;have hYl:=lt_of_block hb.hy;obtain⟨cg,_,hG,_⟩:=ho.vs;have hGl:=lt_of_block hG;have hvt:=ho.vt;have hsh:=ho.sh;have hne:∀k,k<w.heap.size->k≠b->(st.vtab≠none->k≠V)->¬(k=b\/k=V'):=by
  intro k hk h1 h2 h3;rcases h3 with h3|h3
  ·exact h1 h3
  ·rcases hV' with h|⟨h,hn⟩
   ·omega
   ·exact h2 hn (h3.trans h)
 have hVne:∀k cc tt,w.heap[k]?=some (.cells cc tt)->tt≠98->st.vtab≠none->k≠V:=by
  intro k cc tt hk ht hv;cases hc:st.vtab with
  | none=>exact absurd hc hv
  | some l0=>rw[hc] at hvt;exact λe=>OffRow.ne_of hvt hk ht e.symm
 have hYk:w'.heap[Y]?=w.heap[Y]?:=hf.block Y hYl (hne Y hYl (λe=>hb.ne e.symm) (hVne Y _ _ hb.hy (by decide)));have hGk:¬(G=b\/G=V'):=hne G hGl (ho.vs.ne_of hb.hb (by decide)) (λ_ e=>ho.vg e.symm);have hMk:st.shared≠none->¬(M=b\/M=V'):=by
  intro hs;cases hc:st.shared with
  | none=>exact absurd hc hs
  | some D =>
   rw[hc] at hsh;refine hne M hsh.lt (ShRep.ne_of hsh hb.hb) (λhv e=>?_);cases hc2:st.vtab with
   | none=>exact absurd hc2 hv
   | some l0 =>
    rw[hc2] at hvt;obtain⟨cv,_,h2,_⟩:=hvt;exact ShRep.ne_of hsh (e▸h2) rfl
 refine⟨⟨Y,V',G,M,{ r with v2:=v },c,rfl,⟨hbb,hYk.trans hb.hy,hb.fit,hb.eq,hb.lim,hb.ne,hb.cap,hb.one,hb.zero⟩,⟨hrow,ho.oe,ho.vs.fr hf hGk,ho.ne,ho.fi,hsh.fr hf hMk,λe=>hGk (.inr e.symm)⟩⟩,?_,?_⟩
 ·refine hf.mono (λi hi h=>?_);rcases h with rfl|rfl
  ·simp
  ·rcases hV' with h|⟨h,_⟩
   ·omega
   ·rw[h];simp
 ·intro k hk;simp only[List.mem_cons,List.not_mem_nil,or_false] at hk ⊢;rcases hk with rfl|rfl|rfl|rfl|rfl
  ·simp
  ·simp
  ·rcases hV' with h|⟨h,_⟩
   ·exact .inr h
   ·rw[h];simp
  ·simp
  ·simp
def Zr (w2 wr:World)(V m i:Nat):Prop:=∃c':Array Value,wr.heap[V]?=some (.cells c' 98)/\c'.size=m/\c'.toList.take i=u32s (List.replicate i 0)/\Fr (λk=>k=V) w2 wr
theorem Zr.step{w2 wr:World}{V m i:Nat}(h:Zr w2 wr V m i)(hi:i<m):Zr w2 (wr.setCell ⟨V,i,none⟩ (.int .u32 0)) V m (i+1):=by
 obtain⟨c',h1,h2,h3,h4⟩:=h;refine⟨c'.setIfInBounds i (.int .u32 0),heap_setCell_same h1 i _,by simpa using h2,?_,h4.setCell (λ_=>rfl) _⟩;rw[Array.toList_setIfInBounds,List.take_succ_eq_append_getElem (by simpa using by omega),List.take_set_of_le (Nat.le_refl _),h3];simp[u32s,List.replicate_succ']
def BSt.startObj(st:BSt)(n:Nat):Option BSt:=if st.nested then none else some { st with nested:=true,vtab:=some (List.replicate n 0),oend:=st.m.bytes.length }
theorem StartObject_calls(b:Nat)(F:List Nat)(st:BSt)(n:Nat)(w:World)(h:BRep w b F st)(hn:n<=1000):
  Calls Tryz.prog 69 #[.pointer (some ⟨b,0,none⟩),.int .i64 n] w (BRes w b F (unitRes (st.startObj n))):=by
 have HA:=Hd (assertNotNested_calls b F st w h);cases hne:st.nested with
 | true =>
  have e:unitRes (st.startObj n)=none:=by unfold BSt.startObj unitRes;rw[hne];rfl
  rw[e];rw[hne] at HA;clear h hne;go_enter Tryz.func69,Tryz.ntmps69;go_wp2_with fail;refine HA.out.mono ?_;rintro e w' ⟨⟨u,v,rfl⟩,rfl⟩;exact⟨rfl,⟨u,v,rfl⟩,Fr.refl _ _⟩
 | false =>
  have e:unitRes (st.startObj n)=some (.tuple #[],{ st with nested:=true,vtab:=some (List.replicate n 0),oend:=st.m.bytes.length }):=by unfold BSt.startObj unitRes;rw[hne];rfl
  rw[e];rw[hne] at HA;obtain⟨c6,_⟩:=h.cells;have f2:=h.frozen 2;have f3:=h.frozen 3;have f6:=h.frozen 6;have h6:=h.set6 true;obtain⟨Y,V,G,M,r,c,hF,hb,ho⟩:=h;have hbl:=lt_of_block hb.hb;have c2:w.cell? ⟨b,2,none⟩=some r.v2:=by rw[cell_of hb.hb];rfl
  have c3:w.cell? ⟨b,3,none⟩=some r.v3:=by rw[cell_of hb.hb];rfl
  -- what a new row leaves
  have hnew:∃F',BRep (((w.setCell ⟨b,6,none⟩ (.bool true)).setCell ⟨b,2,none⟩ (.slice (some ⟨w.heap.size,0,none⟩) n n)).alloc (.cells (madeCells #[.int .u32 0] n) 98)) b F' { st with nested:=true,vtab:=some (List.replicate n 0) } /\
    Adv w (((w.setCell ⟨b,6,none⟩ (.bool true)).setCell ⟨b,2,none⟩ (.slice (some ⟨w.heap.size,0,none⟩) n n)).alloc (.cells (madeCells #[.int .u32 0] n) 98)) F F':=by
   subst hF;obtain⟨⟨Y',V',G',M',r',c',hF',hb',ho'⟩,ha'⟩:=h6;obtain⟨rfl,rfl,rfl,rfl⟩:Y=Y'/\V=V'/\G=G'/\M=M':=(by simpa using hF');have hsz:(w.setCell ⟨b,6,none⟩ (.bool true)).heap.size=w.heap.size:=(by simp[World.setCell]);have hbl':=lt_of_block hb'.hb;have hfr:Fr (λk=>k=b\/k=w.heap.size) (w.setCell ⟨b,6,none⟩ (.bool true)) (((w.setCell ⟨b,6,none⟩ (.bool true)).setCell ⟨b,2,none⟩ (.slice (some ⟨w.heap.size,0,none⟩) n n)).alloc (.cells (madeCells #[.int .u32 0] n) 98)) :=
    ((Fr.refl _ _).setCell (λ_=>.inl rfl) _).alloc _
   have hsz2:((w.setCell ⟨b,6,none⟩ (.bool true)).setCell ⟨b,2,none⟩ (.slice (some ⟨w.heap.size,0,none⟩) n n)).heap.size=w.heap.size:=(by simp[World.setCell]);have hnb:(((w.setCell ⟨b,6,none⟩ (.bool true)).setCell ⟨b,2,none⟩ (.slice (some ⟨w.heap.size,0,none⟩) n n)).alloc (.cells (madeCells #[.int .u32 0] n) 98)).heap[w.heap.size]?=some (.cells (madeCells #[.int .u32 0] n) 98):=by
    rw[heap_alloc_get,if_pos hsz2.symm]
   have:=BRep.vtother (V':=w.heap.size) (l:=List.replicate n 0) hb' ho' hfr (.inl (by omega)) ((heap_alloc_old _ _ _ (by rw[hsz2];exact hbl)).trans (heap_setCell_same hb'.hb 2 _)) ⟨madeCells #[.int .u32 0] n,by rw[size_madeCells];simp,hnb,by rw[size_madeCells];simp,by rw[toList_madeCells_one];simp[u32s],by rw[size_madeCells];unfold maxLen;omega⟩
   exact⟨_,this.1,ha'.trans this.2⟩
  obtain⟨i1,hj,hy0,hy1,hy2⟩:=info_parts' infoU32o;have hmk2:=λw'=>run_make (P:=Tryz.prog) w' 100 98 i1 (.int .u32 0) Tryz.underlying100 hj hy0 .i64 .i64 n n (by omega) (by omega) (by rw[hy2];omega) (by omega);rw[hy1] at hmk2;simp only[Int.toNat_natCast,Nat.mul_one,Value.cells] at hmk2;have HNEW:=Hd hnew;clear hnew;have HMK:=Hd hmk2;clear hmk2
  -- the end, behind a new row
  have hvt:=ho.vt;cases hv:st.vtab with
  | none =>
   rw[hv] at hvt;rw[hvt.1] at c2;clear h6 hb ho hF hvt hv hj hy0 hy1 hy2;have hnil:=λw=>Go.run_eql_slice_nil (P:=Tryz.prog) w 100 98 none 0 0 Tryz.underlying100;have hcase:0<n\/n=0:=(by omega);rcases hcase with hd|rfl
   ·have hmk2:=HMK.out;have hd2:decide (0<n)=true:=(by simpa using hd);go_enter Tryz.func69,Tryz.ntmps69;go_wp2_with fail;refine HA.out.mono ?_;rintro e w' ⟨rfl,rfl⟩;go_wp2_with fail;obtain⟨F1,hb1,ha1⟩:=HNEW.out;generalize ((w'.setCell ⟨b,6,none⟩ (.bool true)).setCell ⟨b,2,none⟩ (.slice (some ⟨w'.heap.size,0,none⟩) n n)).alloc (.cells (madeCells #[.int .u32 0] n) 98)=w1 at *;have e3:=hb1.cells.2.2.1;have g3:=hb1.frozen 3;have HO:=Hd (Offset_b b F1 _ w1 hb1);have H3:=Hd (λm=>(hb1.drewN m).set3 st.m.bytes.length);have HAD:=Hd ha1;clear hb1 ha1 HNEW;refine HO.out.mono ?_;rintro e w2 ⟨rfl,m,rfl⟩;go_wp2_with fail;go_end0
    exact⟨rfl,F1,(H3.out m).1,(HAD.out.drewN m).trans (H3.out m).2⟩
   ·have hmk2:=HMK.out;have hz:((0:Nat):Int)=0:=rfl;simp only[hz] at hmk2;clear hz;go_enter Tryz.func69,Tryz.ntmps69;go_wp2_with fail;refine HA.out.mono ?_;rintro e w' ⟨rfl,rfl⟩;go_wp2_with fail;obtain⟨F1,hb1,ha1⟩:=HNEW.out;generalize ((w'.setCell ⟨b,6,none⟩ (.bool true)).setCell ⟨b,2,none⟩ (.slice (some ⟨w'.heap.size,0,none⟩) 0 0)).alloc (.cells (madeCells #[.int .u32 0] 0) 98)=w1 at *;have e3:=hb1.cells.2.2.1;have g3:=hb1.frozen 3;have HO:=Hd (Offset_b b F1 _ w1 hb1);have H3:=Hd (λm=>(hb1.drewN m).set3 st.m.bytes.length);have HAD:=Hd ha1;clear hb1 ha1 HNEW;refine HO.out.mono ?_;rintro e w2 ⟨rfl,m,rfl⟩;go_wp2_with fail;go_end0
    exact⟨rfl,F1,(H3.out m).1,(HAD.out.drewN m).trans (H3.out m).2⟩
  | some l =>
   have hvt2:=hvt;rw[hv] at hvt;obtain⟨cv,h1,h2,h3,h4,h5⟩:=hvt;rw[h1] at c2;have hnil:=λw=>Go.run_eql_slice_nil (P:=Tryz.prog) w 100 98 (some ⟨V,0,none⟩) l.length cv.size Tryz.underlying100;by_cases hd:cv.size<n
   ·have hd2:decide (cv.size<n)=true:=(by simpa using hd);have hmk2:=HMK.out;clear h6 hb ho hF hvt2 hv hj hy0 hy1 hy2 h1 h2 h3 h4 h5;go_enter Tryz.func69,Tryz.ntmps69;go_wp2_with fail;refine HA.out.mono ?_;rintro e w' ⟨rfl,rfl⟩;go_wp2_with fail;obtain⟨F1,hb1,ha1⟩:=HNEW.out;generalize ((w'.setCell ⟨b,6,none⟩ (.bool true)).setCell ⟨b,2,none⟩ (.slice (some ⟨w'.heap.size,0,none⟩) n n)).alloc (.cells (madeCells #[.int .u32 0] n) 98)=w1 at *;have e3:=hb1.cells.2.2.1;have g3:=hb1.frozen 3;have HO:=Hd (Offset_b b F1 _ w1 hb1);have H3:=Hd (λm=>(hb1.drewN m).set3 st.m.bytes.length);have HAD:=Hd ha1;clear hb1 ha1 HNEW;refine HO.out.mono ?_;rintro e w2 ⟨rfl,m,rfl⟩;go_wp2_with fail;go_end0
    exact⟨rfl,F1,(H3.out m).1,(HAD.out.drewN m).trans (H3.out m).2⟩
   ·have hd2:decide (cv.size<n)=false:=(by simpa using hd);have hle:n<=cv.size:=(by omega);have hsl:=λw=>run_slice_to (P:=Tryz.prog) Tryz.underlying100 sizeU32o V 0 l.length cv.size .i64 n n rfl hle w;have hVb:V≠b:=OffRow.ne_of (by rw[hv] at hvt2;exact hvt2) hb.hb (by decide)
    -- the loop's words, and its end
    have hend:∀wr c',wr.heap[V]?=some (.cells c' 98)->c'.size=cv.size->c'.toList.take n=u32s (List.replicate n 0)->Fr (λk=>k=V) ((w.setCell ⟨b,6,none⟩ (.bool true)).setCell ⟨b,2,none⟩ (.slice (some ⟨V,0,none⟩) n cv.size)) wr ->
      BRep wr b F { st with nested:=true,vtab:=some (List.replicate n 0) }/\Adv w wr F F:=by
     intro wr c' hV hc' ht hf;subst hF;obtain⟨⟨Y',V',G',M',r',c2',hF',hb',ho'⟩,ha'⟩:=h6;obtain⟨rfl,rfl,rfl,rfl⟩:Y=Y'/\V=V'/\G=G'/\M=M':=(by simpa using hF');have hfr:Fr (λk=>k=b\/k=V) (w.setCell ⟨b,6,none⟩ (.bool true)) wr:=((Fr.refl _ _).setCell (S:=λk=>k=b\/k=V) (λ_=>.inl rfl) _).trans (hf.mono (λ_ _ h=>.inr h));have:=BRep.vtother (V':=V) (l:=List.replicate n 0) hb' ho' hfr (.inr ⟨rfl,by show st.vtab≠none;rw[hv];simp⟩) ((hf.block b (by simp[World.setCell];exact hbl) (λe=>hVb e.symm)).trans (heap_setCell_same hb'.hb 2 _)) ⟨c',by rw[hc'];simp,hV,by rw[hc'];simp;omega,by simpa using ht,by rw[hc'];exact h5⟩
     exact⟨this.1,ha'.trans this.2⟩
    have hV0:((w.setCell ⟨b,6,none⟩ (.bool true)).setCell ⟨b,2,none⟩ (.slice (some ⟨V,0,none⟩) n cv.size)).heap[V]?=some (.cells cv 98):=by
     rw[heap_setCell_other _ _ _ _ hVb,heap_setCell_other _ _ _ _ hVb];exact h2
    have HEND:=Hd hend;have HV0:=Hd hV0;have HVB:=Hd hVb;have hVl:=lt_of_block h2;have HLE:=Hd hle;clear h6 hb ho hF hvt2 hv hj hy0 hy1 hy2 h1 h2 h3 h4 h5 hend hV0 hVb HNEW HMK hle;go_enter Tryz.func69,Tryz.ntmps69;go_wp2_with fail;refine HA.out.mono ?_;rintro e w' ⟨rfl,rfl⟩;go_wp2_with fail;go_loopw [4] (λiv wr=>∃i:Nat,i<=n/\iv=.int .i64 i/\Zr ((w'.setCell ⟨b,6,none⟩ (.bool true)).setCell ⟨b,2,none⟩ (.slice (some ⟨V,0,none⟩) n cv.size)) wr V cv.size i) (λiv _=>n-(intOf iv).toNat)
    case atStart=>exact⟨0,Nat.zero_le _,rfl,cv,HV0.out,rfl,rfl,Fr.refl _ _⟩
    case round =>
     obtain⟨i,hi1,rfl,hZ⟩:=hrel;have HZ:=Hd hZ;obtain⟨c',z1,z2,z3,z4⟩:=hZ;have hle:=HLE.out;have hVb:=HVB.out;have hzb:wr.cell? ⟨b,2,none⟩=some (.slice (some ⟨V,0,none⟩) n cv.size):=by
      rw[Fr.cell z4 (p:=⟨b,2,none⟩) (by simpa [World.setCell] using hbl) (λe=>hVb e.symm)];simp[go_sem,c2]
     by_cases hlt:i<n
     ·obtain⟨v0,cV⟩:∃v0,wr.cell? ⟨V,i,none⟩=some v0:=⟨_,(cell_of z1 i).trans (Array.getElem?_eq_getElem (by omega))⟩;have fV:=frozen_of z1 i;clear z1 z2 z3 z4 hle hVb;go_wp2_with fail;go_roundw
      case rel=>exact⟨i+1,by omega,by go_num,HZ.out.step (by have:=HLE.out;omega)⟩
      case measure=>simp[intOf];omega
     ·obtain rfl:i=n:=(by omega);obtain⟨hb1,ha1⟩:=HEND.out wr c' z1 z2 z3 z4;have e3:=hb1.cells.2.2.1;have g3:=hb1.frozen 3;have HO:=Hd (Offset_b b F _ wr hb1);have H3:=Hd (λm=>(hb1.drewN m).set3 st.m.bytes.length);have HAD:=Hd ha1;clear hb1 ha1 z1 z2 z3 z4 hle hVb;go_wp2_with fail;refine HO.out.mono ?_;rintro e w2 ⟨rfl,m,rfl⟩;go_wp2_with fail;go_end0
      exact⟨rfl,F,(H3.out m).1,(HAD.out.drewN m).trans (H3.out m).2⟩
def vtEnt(o f x:Nat):Bool:=(decide (x=0)&&decide (f=0)) || decide (x+f=o)
def vtSame(o:Nat):List Nat->List UInt8->Bool
 | [],[]=>true
 | f::r,x0::x1::d=>vtEnt o f (x0.toNat+256*x1.toNat)&&vtSame o r d
 | _,_=>false
theorem vtSame_len(o:Nat):∀(a:List Nat) (d:List UInt8),vtSame o a d=true->a.length*2=d.length
 | [],[],_=>rfl
 | [],_::_,h=>by simp[vtSame] at h
 | _::_,[],h=>by simp[vtSame] at h
 | _::_,[_],h=>by simp[vtSame] at h
 | f::r,x0::x1::d,h=>by
  simp only[vtSame,Bool.and_eq_true] at h;have:=vtSame_len o r d h.2
  simp only[List.length_cons];omega
theorem vtSame_drop(o:Nat):∀(a:List Nat) (d:List UInt8) (i:Nat),a.length*2=d.length->(hi:i<a.length) ->
  vtSame o (a.drop i) (d.drop (i*2))=(vtEnt o a[i] (le ((d.drop (i*2)).take 2))&&vtSame o (a.drop (i+1)) (d.drop ((i+1)*2)))
 | f::r,x0::x1::d,0,h,_=>by
  simp[vtSame,le]
 | f::r,x0::x1::d,i+1,h,hi=>by
  have:=vtSame_drop o r d i (by simp only[List.length_cons] at h;omega) (by simpa using hi)
  rw[show (i+1)*2=i*2+2 by omega,show (i+1+1)*2=(i+1)*2+2 by omega];simpa using this
 | [],_,_,_,hi=>by simp at hi
 | _::_,[],_,h,_=>by simp at h
 | _::_,[_],_,h,_=>by simp only[List.length_cons,List.length_nil] at h;omega
theorem le2_lt(l:List UInt8):le (l.take 2)<65536:=by
 have:=le_lt (l.take 2)
 have h2:(l.take 2).length<=2:=by simp;omega
 have:2^(8*(l.take 2).length)<=2^16:=Nat.pow_le_pow_right (by omega) (by omega)
 omega
theorem vtableEqual_calls(V ca Y off len cap o:Nat)(a:List Nat)(d:List UInt8)(w:World)(ha:∀i (h:i<a.length),w.cell? ⟨V,i,none⟩=some (.int .u32 a[i]))(hal:∀x∈a,x<=4000000)(han:a.length<=100000)(ho:o<=4000000)
  (hm:Mem w Y off d) (hd:d.length=len) (hc:len<=cap):
  Calls Tryz.prog 217 #[.slice (some ⟨V,0,none⟩) a.length ca,.int .u32 o,.slice (some ⟨Y,off,none⟩) len cap] w λe w'=>e=.returned (.bool (vtSame o a d))/\w=w':=by
 obtain⟨n,hn⟩:=exA (a.length);rw[<-hn] at han ⊢;have HN:=Hd hn;have HD:=Hd hd;have HA:=Hd ha;have HAL:=Hd hal;have HM:=Hd hm;by_cases he:n*2=len
 ·obtain⟨v,hv⟩:=exA (vtSame o a d);rw[<-hv];have HV:=Hd hv;have HE:=Hd he;have hq1:((n:Int)*2==(len:Int))=true:=by rw[beq_iff_eq];omega
  have hq2:((n:Int)*2 != (len:Int))=false:=by simp only[bne,hq1];rfl
  clear hn hd ha hal hm hv he;go_enter Tryz.func217,Tryz.ntmps217;go_wp2_with fail;go_loop [7] (λiv=>∃i:Nat,i<=n/\iv=.int .i64 i/\RowKit.Hid (v=vtSame o (a.drop i) (d.drop (i*2)))) (λiv=>n-(intOf iv).toNat)
  case atStart=>exact⟨0,Nat.zero_le _,rfl,Hd (by simpa using HV.out)⟩
  case round =>
   obtain⟨i,hi1,rfl,hR⟩:=hrel;by_cases hlt:i<n
   ·have hla:i<a.length:=(by have:=HN.out;omega);have hvd:=vtSame_drop o a d i (by have:=HN.out;have:=HE.out;have:=HD.out;omega) hla;rw[<-hR.out] at hvd;obtain⟨f,hf⟩:=exA (a[i]);have hfl:f<=4000000:=(by rw[hf];exact HAL.out _ (List.getElem_mem hla));have cV:w.cell? ⟨V,i,none⟩=some (.int .u32 f):=(by rw[hf];exact HA.out i hla);have hsl:=λw'=>run_slice_cut (P:=Tryz.prog) Tryz.underlying81 sizeU8b Y off len cap .i64 .i64 ((i:Int)*2) (((i:Int)+1)*2) (i*2) ((i+1)*2) (by simp) (by simp) (by omega) (by have:=HE.out;omega) w';rw[show (i+1)*2-i*2=2 by omega,sOff_lt (by have:=HE.out;omega)] at hsl;have HG:=Hd (GetVOffsetT_ok Y (off+i*2) 2 (cap-i*2) ((d.drop (i*2)).take 2) w ((HM.out.drop (i*2)).take 2) (by have:=HE.out;have:=HD.out;simp;omega) (by omega));rw[List.take_take,Nat.min_self] at HG;obtain⟨x,hx⟩:=exA (le ((d.drop (i*2)).take 2));have hxl:x<65536:=(by rw[hx];exact le2_lt _);rw[<-hx] at HG hvd;rw[<-hf] at hvd;have HVD:=Hd hvd;clear hvd hx hf hR hla;have hent:(x=0/\f=0)\/(¬x=0/\x+f=o)\/(x=0/\¬f=0/\x+f=o)\/(¬x=0/\¬x+f=o)\/(x=0/\¬f=0/\¬x+f=o):=(by omega);rcases hent with ⟨hx,hf⟩|⟨hx,ho2⟩|⟨hx,hf,ho2⟩|⟨hx,ho2⟩|⟨hx,hf,ho2⟩
    all_goals
     go_wp2_with fail;refine HG.out.mono ?_;rintro e w' ⟨rfl,rfl⟩;go_wp2_with fail
    ·go_round
     case rel=>exact⟨i+1,by omega,by go_num,Hd (by rw[HVD.out];simp[vtEnt,hx,hf])⟩
     case measure=>simp[intOf];omega
    ·go_round
     case rel=>exact⟨i+1,by omega,by go_num,Hd (by rw[HVD.out];simp[vtEnt,ho2])⟩
     case measure=>simp[intOf];omega
    ·go_round
     case rel=>exact⟨i+1,by omega,by go_num,Hd (by rw[HVD.out];simp[vtEnt,ho2])⟩
     case measure=>simp[intOf];omega
    ·go_ret;exact⟨by rw[HVD.out];simp[vtEnt,ho2,hx],rfl⟩
    ·go_ret;exact⟨by rw[HVD.out];simp[vtEnt,ho2,hf],rfl⟩
   ·obtain rfl:i=n:=(by omega);have hv:v=true:=by
     rw[hR.out,List.drop_of_length_le (by have:=HN.out;omega),List.drop_of_length_le (by have:=HE.out;have:=HD.out;omega)];rfl
    have HVV:=Hd hv;clear hv hR;go_wp2_with fail;go_ret;exact⟨by rw[HVV.out];rfl,rfl⟩
 ·have hv:vtSame o a d=false:=by
   cases h:vtSame o a d with
   | false=>rfl
   | true=>exact absurd (vtSame_len o a d h) (by omega)
  rw[hv];have hq1:((n:Int)*2==(len:Int))=false:=by rw[beq_eq_false_iff_ne];omega
  have hq2:((n:Int)*2 != (len:Int))=true:=by simp only[bne,hq1];rfl
  clear hn hd ha hal hm hv he;go_enter Tryz.func217,Tryz.ntmps217;go_wp2_with fail;go_ret;exact⟨rfl,rfl⟩
def fromEnd(l:List UInt8)(v:Nat):List UInt8:=l.drop (l.length-v)
theorem fromEnd_length(l:List UInt8)(v:Nat)(h:v<=l.length):(fromEnd l v).length=v:=by unfold fromEnd;rw[List.length_drop];omega
theorem fromEnd_append(xs l:List UInt8)(v:Nat)(h:v<=l.length):fromEnd (xs++l) v=fromEnd l v:=by
 unfold fromEnd;rw[List.length_append,show xs.length+l.length-v=xs.length+(l.length-v) by omega,List.drop_append];rw[show xs.length+(l.length-v)-xs.length=l.length-v by omega,List.drop_of_length_le (by omega),List.nil_append]
def vtLen(m:BM)(v:Nat):Nat:=le ((fromEnd m.bytes v).take 2)
def vtBytes(m:BM)(v:Nat):List UInt8:=((fromEnd m.bytes v).take (vtLen m v)).drop 4
def trimZ(l:List Nat):List Nat:=(l.reverse.dropWhile (·==0)).reverse
theorem trimZ_snoc_zero(l:List Nat):trimZ (l++[0])=trimZ l:=by simp[trimZ]
theorem trimZ_snoc(l:List Nat)(x:Nat)(h:x≠0):trimZ (l++[x])=l++[x]:=by simp[trimZ,h]
theorem trimZ_take_zero(l:List Nat)(k:Nat)(h:k<l.length)(h0:l[k]=0):trimZ (l.take (k+1))=trimZ (l.take k):=by
 rw[List.take_succ_eq_append_getElem h,h0,trimZ_snoc_zero]
theorem trimZ_take_stop(l:List Nat)(k:Nat)(h:k<l.length)(h0:l[k]≠0):trimZ (l.take (k+1))=l.take (k+1):=by
 rw[List.take_succ_eq_append_getElem h,trimZ_snoc _ _ h0]
def BM.over(m:BM)(o:Nat)(xs:List UInt8):BM:={ m with bytes:=m.bytes.take (m.bytes.length-o)++xs++m.bytes.drop (m.bytes.length-o+xs.length) }
theorem BM.over_len(m:BM)(o:Nat)(xs:List UInt8)(h:xs.length<=o)(ho:o<=m.bytes.length):(m.over o xs).bytes.length=m.bytes.length:=by
 show (m.bytes.take (m.bytes.length-o)++xs++m.bytes.drop (m.bytes.length-o+xs.length)).length=_;simp only[List.length_append,List.length_take,List.length_drop];omega
def vtPut(o:Nat)(l:List Nat)(m:BM):BM:=l.foldr (λ(f:Nat) m=>(m.prep 2 0).put (leI 2 (if f=0 then 0 else (o:Int)-(f:Int)))) m
def vtFind(m:BM)(o:Nat)(l:List Nat)(vts:List Nat):Option Nat:=vts.reverse.find? (λv=>vtSame o l (vtBytes m v))
def BSt.vt1(st:BSt):BM:=(st.m.prep 4 0).put (leB 4 ((st.m.prep 4 0).bytes.length+4))
def BSt.vt4(st:BSt)(l:List Nat):BM:=((((vtPut st.vt1.bytes.length l st.vt1).prep 2 0).put (leI 2 ((st.vt1.bytes.length:Int)-st.oend))).prep 2 0).put (leI 2 (((l.length+2)*2:Nat):Int))
def BSt.writeVt(st:BSt):BSt :=
 match vtFind st.vt1 st.vt1.bytes.length (trimZ (st.vtab.getD [])) st.vts with
 | some v=>{ st with m:=st.vt1.over st.vt1.bytes.length (leI 4 ((v:Int)-st.vt1.bytes.length)),vtab:=st.vtab.map (λ_=>[]) }
 | none=>{ st with m:=(st.vt4 (trimZ (st.vtab.getD []))).over st.vt1.bytes.length (leI 4 (((st.vt4 (trimZ (st.vtab.getD []))).bytes.length:Int)-st.vt1.bytes.length)),vtab:=st.vtab.map (λ_=>[]),vts:=st.vts++[(st.vt4 (trimZ (st.vtab.getD []))).bytes.length] }
def BSt.endObj(st:BSt):Option (Nat × BSt):=if st.nested then some (st.vt1.bytes.length,{ st.writeVt with nested:=false }) else none
structure BInv(st:BSt):Prop where
 vts:∀v∈st.vts,v<=st.m.bytes.length/\4<=vtLen st.m v/\vtLen st.m v<=v
 vtab:∀l,st.vtab=some l->l.length<=1000/\∀x∈l,x<=st.m.bytes.length
 oend:st.oend<=st.m.bytes.length
 many:st.vts.length<=1000000
theorem vtFind_take(m:BM)(o:Nat)(l vts:List Nat)(j:Nat)(h:j<vts.length):
  vtFind m o l (vts.take (j+1))=if vtSame o l (vtBytes m vts[j]) then some vts[j] else vtFind m o l (vts.take j):=by
 unfold vtFind;rw[List.take_succ_eq_append_getElem h,List.reverse_append,List.reverse_singleton,List.singleton_append,List.find?_cons];cases vtSame o l (vtBytes m vts[j])<;>rfl
theorem BSt.vt1_bytes(st:BSt):∃xs,st.vt1.bytes=xs++st.m.bytes:=⟨leB 4 ((st.m.prep 4 0).bytes.length+4)++List.replicate (st.m.pad 4 0) 0,by
 show leB 4 _++(List.replicate _ _++st.m.bytes)=_;rw[List.append_assoc]⟩
theorem vtLen_app{m m':BM}{xs:List UInt8}(h:m'.bytes=xs++m.bytes)(v:Nat)(hv:v<=m.bytes.length):vtLen m' v=vtLen m v:=by
 unfold vtLen;rw[h,fromEnd_append _ _ _ hv]
theorem vtPut_cons(o f:Nat)(l:List Nat)(m:BM):vtPut o (f::l) m=((vtPut o l m).prep 2 0).put (leI 2 (if f=0 then 0 else (o:Int)-(f:Int))):=rfl
theorem BM.step2_len(m:BM)(xs:List UInt8)(h:xs.length=2):((m.prep 2 0).put xs).bytes.length<=m.bytes.length+4/\m.bytes.length+2<=((m.prep 2 0).put xs).bytes.length:=by
 have:=m.prep_le 2 0 (by unfold algn;omega)
 have h2:=m.prep_len 2 0 (by unfold algn;omega);show (xs++(m.prep 2 0).bytes).length<=_/\_<=(xs++(m.prep 2 0).bytes).length;rw[List.length_append,h];omega
theorem vtPut_len(o:Nat):∀(l:List Nat) (m:BM),(vtPut o l m).bytes.length<=m.bytes.length+4*l.length/\m.bytes.length<=(vtPut o l m).bytes.length
 | [],m=>⟨by simp[vtPut],by simp[vtPut]⟩
 | f::l,m=>by
  have ih:=vtPut_len o l m;have:=BM.step2_len (vtPut o l m) (leI 2 (if f=0 then 0 else (o:Int)-(f:Int))) (leI_length _ _)
  rw[vtPut_cons,List.length_cons];omega
/-! Memory -/
theorem BB.mem{w:World}{b Y:Nat}{r:BRest}{room least:Nat}{bytes:List UInt8}{c:Array Value}(h:BB w b Y r room least bytes c):Mem w Y room bytes:=by
 intro i x hx;have hi:i<bytes.length:=(List.getElem?_eq_some_iff.1 hx).1;have hfit:=h.fit;rw[cell_of h.hy];have h1:((c.toList.take (room+bytes.length)).drop room)[i]?=some (.int .u8 x.toNat):=by
  rw[h.eq];unfold cellsOf;rw[List.getElem?_map,hx];rfl
 rw[List.getElem?_drop,List.getElem?_take,if_pos (by omega)] at h1;simpa using h1
theorem BRep.bytesAt{w:World}{b:Nat}{F:List Nat}{st:BSt}(h:BRep w b F st):
  ∃Y L cap,w.cell? ⟨b,0,none⟩=some (.slice (some ⟨Y,0,none⟩) L cap)/\L=st.m.room+st.m.bytes.length/\L<=cap/\L<=4000000/\Mem w Y st.m.room st.m.bytes/\Y≠b/\Y∈F/\(∃c:Array Value,w.heap[Y]?=some (.cells c 5)/\c.size=cap) /\
   ∀nq o xs,xs.length<=o->o<=st.m.bytes.length->BRep ((w.drewN nq).setCells Y (L-o) (cellsOf xs)) b F { st with m:=st.m.over o xs }/\Adv w ((w.drewN nq).setCells Y (L-o) (cellsOf xs)) F F:=by
 obtain⟨Y,V,G,M,r,c,rfl,hb,ho⟩:=h;refine⟨Y,_,_,(by rw[cell_of hb.hb];rfl),rfl,hb.fit,hb.lim,hb.mem,λe=>hb.ne e.symm,by simp,⟨c,hb.hy,rfl⟩,λnq o xs hx hol=>?_⟩;have hb0:=hb;have ho0:=ho;clear hb ho;have hb:=hb0.drewN nq;have ho:=ho0.fr (S:=λ_=>False) ((Fr.refl _ w).drewN nq) (λ_ h=>h) (λh=>h) (λ_ h=>h);have hcl:(cellsOf xs).length=xs.length:=cellsOf_length xs;have hfit:=hb.fit;have hf:Fr (λk=>k=Y) (w.drewN nq) ((w.drewN nq).setCells Y (st.m.room+st.m.bytes.length-o) (cellsOf xs)):=(Fr.refl (λk=>k=Y) (w.drewN nq)).setCells (λ_=>rfl) _ _;have hlen:=BM.over_len st.m o xs hx hol;have hss:(splice c (st.m.room+st.m.bytes.length-o) (cellsOf xs)).size=c.size:=splice_size _ _ _ (by rw[hcl];omega);have ho2:=ho.kept hb hf (λk h=>.inr h);refine⟨⟨Y,V,G,M,r,splice c (st.m.room+st.m.bytes.length-o) (cellsOf xs),rfl,⟨?_,?_,by rw[hlen,hss];exact hfit,?_,by rw[hlen];exact hb.lim,hb.ne,by rw[hss];exact hb.cap,?_,by rw[hlen,hss];exact hb.zero⟩,⟨ho2.vt,ho2.oe,ho2.vs,ho2.ne,ho2.fi,ho2.sh,ho2.vg⟩⟩,(hf.mono (λi _ hi=>by subst hi;simp)).fromDrewN,λk hk=>.inl hk⟩
 ·rw[setCells_heap_other _ _ _ _ hb.ne,hlen,hss];exact hb.hb
 ·exact heap_setCells_same (cellsOf xs) _ c _ hb.hy (by rw[hcl];omega)
 ·rw[hlen];show ((splice c _ (cellsOf xs)).toList.take (st.m.room+st.m.bytes.length)).drop st.m.room=cellsOf (st.m.bytes.take (st.m.bytes.length-o)++xs++st.m.bytes.drop (st.m.bytes.length-o+xs.length));have e1:cellsOf (st.m.bytes.take (st.m.bytes.length-o)++xs++st.m.bytes.drop (st.m.bytes.length-o+xs.length))=(cellsOf st.m.bytes).take (st.m.bytes.length-o)++cellsOf xs++(cellsOf st.m.bytes).drop (st.m.bytes.length-o+xs.length):=by
   unfold cellsOf;simp only[List.map_append,List.map_take,List.map_drop]
  rw[e1,<-hb.eq];unfold splice;rw[hcl];apply List.ext_getElem?
  intro i;have hcs:c.toList.length=c.size:=by simp
  simp only[List.getElem?_drop,List.getElem?_take,List.getElem?_append,List.length_append,List.length_take,List.length_drop,hcs,hcl];repeat' split
  all_goals first
   | rfl
   | omega
   | (congr 1;omega)
   | (exfalso;omega)
 ·rw[hlen];show ∀v∈(splice c _ (cellsOf xs)).toList.take (st.m.room+st.m.bytes.length),_;exact splice_one c _ _ _ hb.one (cellsOf_one _) (by rw[hcl];omega)
theorem grown_fr{w w3:World}{r:Option Nat}(hg:w.grownBy w3 r):Fr (λk=>some k=r) w w3:=⟨hg.os,hg.tape,hg.output,hg.size,λk hk hn=>hg.block k hk hn⟩
theorem BRep.lt{w:World}{b:Nat}{F:List Nat}{st:BSt}(h:BRep w b F st):b<w.heap.size:=by
 obtain⟨Y,V,G,M,r,c,rfl,hb,ho⟩:=h;exact lt_of_block hb.hb
theorem BRep.vtabAt{w:World}{b:Nat}{F:List Nat}{st:BSt}(h:BRep w b F st){l:List Nat}(hl:st.vtab=some l):
  ∃V cap,w.cell? ⟨b,2,none⟩=some (.slice (some ⟨V,0,none⟩) l.length cap)/\l.length<=cap/\V≠b/\(∀i (h:i<l.length),w.cell? ⟨V,i,none⟩=some (.int .u32 l[i])) /\
   ∀k,k<=l.length->BRep (w.setCell ⟨b,2,none⟩ (.slice (some ⟨V,0,none⟩) k cap)) b F { st with vtab:=some (l.take k) }/\Adv w (w.setCell ⟨b,2,none⟩ (.slice (some ⟨V,0,none⟩) k cap)) F F:=by
 obtain⟨Y,V,G,M,r,c,rfl,hb,ho⟩:=h;have hvt:=ho.vt;rw[hl] at hvt;have hVb:V≠b:=OffRow.ne_of hvt hb.hb (by decide);obtain⟨cv,h1,h2,h3,h4,h5⟩:=hvt;refine⟨V,cv.size,by rw[cell_of hb.hb,<-h1];rfl,h3,hVb,λi hi=>?_,λk hk=>?_⟩
 ·rw[cell_of h2];have:=congrArg (λx=>x[i]?) h4
  simp only[List.getElem?_take,hi,if_true,u32s,List.getElem?_map] at this;rw[show cv[i]?=cv.toList[i]? by simp,this,List.getElem?_eq_getElem hi];rfl
 ·have hf:Fr (λx=>x=b\/x=V) w (w.setCell ⟨b,2,none⟩ (.slice (some ⟨V,0,none⟩) k cv.size)):=(Fr.refl _ w).setCell (λ_=>.inl rfl) _;have:=BRep.vtother (V':=V) (l:=l.take k) hb ho hf (.inr ⟨rfl,by rw[hl];simp⟩) (heap_setCell_same hb.hb 2 _) ⟨cv,by rw[List.length_take,Nat.min_eq_left hk],by rw[heap_setCell_other _ _ _ _ hVb];exact h2,by rw[List.length_take];omega,by
   rw[List.length_take,Nat.min_eq_left hk];have:=congrArg (List.take k) h4
   rw[List.take_take,Nat.min_eq_left hk] at this;rw[this];unfold u32s;rw[List.map_take],h5⟩
  exact this
theorem BRep.vtsAt{w:World}{b:Nat}{F:List Nat}{st:BSt}(h:BRep w b F st):
  ∃G cap,w.cell? ⟨b,4,none⟩=some (.slice (some ⟨G,0,none⟩) st.vts.length cap)/\(∀i (h:i<st.vts.length),w.cell? ⟨G,i,none⟩=some (.int .u32 st.vts[i])) /\
   w.ownsRow 0 98 1 (.slice (some ⟨G,0,none⟩) st.vts.length cap) st.vts.length (u32s st.vts)/\G<w.heap.size/\G≠b /\
   ∀w' v' vts',w'.ownsRow 0 98 1 v' vts'.length (u32s vts')->vts'≠[]->Fr (λk=>k=G) w w'->(v'.ownBlock=some G\/∃g,v'.ownBlock=some g/\w.heap.size<=g) ->
    ∃F',BRep (w'.setCell ⟨b,4,none⟩ v') b F' { st with vts:=vts' }/\Adv w (w'.setCell ⟨b,4,none⟩ v') F F':=by
 obtain⟨Y,V,G,M,r,c,rfl,hb,ho⟩:=h;have hvs:=ho.vs;have hGb:G≠b:=hvs.ne_of hb.hb (by decide);have hGY:G≠Y:=hvs.ne_of hb.hy (by decide);obtain⟨cv,h1,h2,h3,h4,h5⟩:=hvs;refine⟨G,cv.size,by rw[cell_of hb.hb,<-h1];rfl,λi hi=>?_,⟨by simp[u32s],.inr ⟨G,cv.size,cv,rfl,Nat.zero_le _,h2,h3,h5,by simp,by simpa using h4⟩⟩,lt_of_block h2,hGb,λw' v' vts' hown hne hf hat=>?_⟩
 ·rw[cell_of h2];have:=congrArg (λx=>x[i]?) h4
  simp only[List.getElem?_take,hi,if_true,u32s,List.getElem?_map] at this;rw[show cv[i]?=cv.toList[i]? by simp,this,List.getElem?_eq_getElem hi];rfl
 ·rcases hown.2 with ⟨_,h0⟩|⟨g,cap,cur,rfl,_,hg,hnc,hcm,hcs,ht⟩
  ·exact absurd (List.eq_nil_of_length_eq_zero h0) hne
  have hcs1:cur.size=cap:=by omega
  have hg2:g=G\/w.heap.size<=g:=by
   rcases hat with h|⟨g',h,h'⟩
   ·left;simpa [Value.ownBlock] using h
   ·right;simp[Value.ownBlock] at h;omega
  have hbl:=lt_of_block hb.hb;have hYl:=lt_of_block hb.hy;have hgb:g≠b:=by rcases hg2 with rfl|h<;>omega
  have hgY:g≠Y:=by rcases hg2 with rfl|h<;>omega
  have hfb:w'.heap[b]?=w.heap[b]?:=hf.block b hbl (λe=>hGb e.symm);have hf2:Fr (λk=>k=b\/k=G) w (w'.setCell ⟨b,4,none⟩ (.slice (some ⟨g,0,none⟩) vts'.length cap)):=(hf.mono (S':=λk=>k=b\/k=G) (λ_ _ h=>.inr h)).setCell (λ_=>.inl rfl) _;have hvt:=ho.vt;have hsh:=ho.sh;have hVs:st.vtab≠none->¬(V=b\/V=G):=by
   intro hv;cases hc:st.vtab with
   | none=>exact absurd hc hv
   | some l=>rw[hc] at hvt;exact λe=>e.elim (OffRow.ne_of hvt hb.hb (by decide)) ho.vg
  have hMs:st.shared≠none->¬(M=b\/M=G):=by
   intro hs;cases hc:st.shared with
   | none=>exact absurd hc hs
   | some D=>rw[hc] at hsh;exact λe=>e.elim (ShRep.ne_of hsh hb.hb) (ShRep.ne_of hsh h2)
  have hVg:V≠g:=by
   rintro rfl;rcases hg2 with h|h
   ·exact ho.vg h
   ·cases hc:st.vtab with
    | none=>rw[hc] at hvt;obtain⟨_,rfl⟩:=hvt;omega
    | some l=>rw[hc] at hvt;obtain⟨cv',_,hV,_⟩:=hvt;have:=lt_of_block hV;omega
  refine⟨[b,Y,V,g,M],⟨Y,V,g,M,{ r with v4:=.slice (some ⟨g,0,none⟩) vts'.length cap },c,rfl,⟨heap_setCell_same (hfb.trans hb.hb) 4 _,?_,hb.fit,hb.eq,hb.lim,hb.ne,hb.cap,hb.one,hb.zero⟩,?_⟩,hf2.mono (λi _ h=>by rcases h with rfl|rfl<;>simp),λk hk=>?_⟩
  ·rw[heap_setCell_other _ _ _ _ (show Y≠b from λe=>hb.ne e.symm)];exact (hf.block Y hYl (λe=>hGY e.symm)).trans hb.hy
  ·refine⟨?_,ho.oe,⟨cur,by rw[hcs1],by rw[heap_setCell_other _ _ _ _ hgb];exact hg,(by show vts'.length<=cur.size;omega),by simpa using ht,by omega⟩,ho.ne,ho.fi,hsh.fr hf2 hMs,hVg⟩;cases hc:st.vtab with
   | none=>rw[hc] at hvt;exact hvt
   | some l=>rw[hc] at hvt;exact OffRow.fr hvt hf2 (hVs (by rw[hc];simp))
  ·simp only[List.mem_cons,List.not_mem_nil,or_false] at hk ⊢;rcases hk with rfl|rfl|rfl|rfl|rfl
   ·simp
   ·simp
   ·simp
   ·rcases hg2 with h|h
    ·rw[h];simp
    ·exact .inr h
   ·simp
theorem BRep.head5{w:World}{b:Nat}{F:List Nat}{st:BSt}(h:BRep w b F st):BRep (w.setCell ⟨b,5,none⟩ (.int .u32 st.m.room)) b F st/\Adv w (w.setCell ⟨b,5,none⟩ (.int .u32 st.m.room)) F F:=by
 have hm:=h.mem;obtain⟨Y,V,G,M,r,c,rfl,hb,ho⟩:=h;have hf:Fr (λk=>k=b) w (w.setCell ⟨b,5,none⟩ (.int .u32 st.m.room)):=(Fr.refl (λk=>k=b) w).setCell (λ_=>rfl) _;have ho2:=ho.kept hb hf (λk h=>.inl h);refine⟨⟨Y,V,G,M,r,c,rfl,⟨heap_setCell_same hb.hb 5 _,?_,hb.fit,hb.eq,hb.lim,hb.ne,hb.cap,hb.one,hb.zero⟩,ho2⟩,hf.mono (λi _ hi=>by subst hi;exact hm),λk hk=>.inl hk⟩;rw[heap_setCell_other _ _ _ _ (show Y≠b from λe=>hb.ne e.symm)];exact hb.hy
end Go.Proofs.YtcfblkkpclfmaaaGreat
