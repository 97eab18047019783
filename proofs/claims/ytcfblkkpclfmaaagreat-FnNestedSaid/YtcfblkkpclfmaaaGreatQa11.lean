/- Part 11 of the proof of FnRead (Ops4, Create, Slots). No condition is laid on the statement. -/
import Derived.Test.YtcfblkkpclfmaaaGreatQa10
import Derived.Lib.LazyBuf
import Derived.Laws.IdiomCopy
set_option linter.unusedVariables false
set_option linter.unusedSimpArgs false
set_option maxRecDepth 100000
set_option maxHeartbeats 16000000
namespace Go.Proofs.YtcfblkkpclfmaaaGreat
open Go.RowKit
theorem BRep.liftF{f:FuncId}{args:Array Value}{w:World}{b:Nat}{F:List Nat}{st:BSt}(h:BRep w b F st)
  (hc:∀Y r c,BBm w b Y r st.m c->Calls Tryz.prog f args w (Falls2 (λk=>k=b\/k=Y) w)):Calls Tryz.prog f args w (Falls2 (λk=>k∈F) w):=by
 obtain⟨Y,V,G,M,r,c,rfl,hb,ho⟩:=h;refine (hc Y r c hb).mono ?_;rintro e w' ⟨h1,h2⟩;exact⟨h1,h2.mono (λi _ hi=>by rcases hi with rfl|rfl<;>simp)⟩
theorem BRep.liftP{f:FuncId}{args:Array Value}{w:World}{b:Nat}{F:List Nat}{st:BSt}{z:Nat}{xs:List UInt8}(h:BRep w b F st)(hx:xs.length=z)
  (hc:∀Y r c,BBm w b Y r st.m c->Calls Tryz.prog f args w λe w'=>e=.returned (.tuple #[])/\(∃c',BB w' b Y r (st.m.room-z) st.m.least (xs++st.m.bytes) c')/\Fr (λk=>k=b\/k=Y) w w'):
  Calls Tryz.prog f args w (BRes w b F (some (.tuple #[],{ st with m:=st.m.put xs }))):=by
 refine h.lift λY r c hb=>(hc Y r c hb).mono ?_;rintro e w' ⟨rfl,h1,h2⟩;refine⟨rfl,BBx.here ?_ h2⟩;show ∃c',BB w' b Y r (st.m.room-xs.length) _ _ c';rw[hx];exact h1
theorem PlaceUOffsetT_b(b:Nat)(F:List Nat)(st:BSt)(n:Nat)(w:World)(h:BRep w b F st):
  Calls Tryz.prog 139 #[.pointer (some ⟨b,0,none⟩),.int .u32 n] w (BRes w b F (if st.m.room<4 then none else some (.tuple #[],{ st with m:=st.m.put (leB 4 n) }))):=by
 by_cases hr:st.m.room<4
 ·rw[if_pos hr];exact h.liftF λY r c hb=>PlaceUOffsetT_dies b Y r _ _ _ c n w hb hr
 ·rw[if_neg hr];refine h.liftP (z:=4) (leB_length 4 n) λY r c hb=>?_;rw[<-leI_nat];exact PlaceUOffsetT_ok b Y r _ _ _ c n w hb (by omega)
def BSt.endVec(st:BSt)(n:Nat):Option (Nat × BSt) :=
 if st.nested then if st.m.room<4 then none else some (4+st.m.bytes.length,{ st with m:=st.m.put (leB 4 n),nested:=false }) else none
theorem EndVector_calls(b:Nat)(F:List Nat)(st:BSt)(n:Nat)(w:World)(h:BRep w b F st)(hn:n<=4000000):
  Calls Tryz.prog 80 #[.pointer (some ⟨b,0,none⟩),.int .i64 n] w (BRes w b F (numRes (st.endVec n))):=by
 have HA:=Hd (assertNested_calls b F st w h);have hmod:(n:Int)%4294967296=(n:Int):=by omega
 cases hne:st.nested with
 | false =>
  have e:numRes (st.endVec n)=none:=by unfold BSt.endVec numRes;rw[hne];rfl
  rw[e];rw[hne] at HA;clear h;go_enter Tryz.func80,Tryz.ntmps80;go_wp2_with fail;refine HA.out.mono ?_;rintro e w' ⟨⟨u,v,rfl⟩,rfl⟩;exact⟨rfl,⟨u,v,rfl⟩,Fr.refl _ _⟩
 | true =>
  rw[hne] at HA;have HP:=Hd (PlaceUOffsetT_b b F st n w h);by_cases hr:st.m.room<4
  ·have e:numRes (st.endVec n)=none:=by unfold BSt.endVec numRes;rw[hne,if_pos rfl,if_pos hr];rfl
   rw[e];rw[if_pos hr] at HP;clear h;go_enter Tryz.func80,Tryz.ntmps80;go_wp2_with fail;refine HA.out.mono ?_;rintro e w' ⟨rfl,rfl⟩;go_wp2_with fail;refine HP.out.mono ?_;rintro e w1 ⟨⟨u,v,rfl⟩,hf⟩;exact⟨rfl,⟨u,v,rfl⟩,hf⟩
  ·have e:numRes (st.endVec n)=some (.int .u32 (4+st.m.bytes.length:Nat),{ st with m:=st.m.put (leB 4 n),nested:=false }):=by unfold BSt.endVec numRes;rw[hne,if_pos rfl,if_neg hr];rfl
   rw[e];rw[if_neg hr] at HP;have hl:(st.m.put (leB 4 n)).bytes.length=4+st.m.bytes.length:=(by show (leB 4 n++st.m.bytes).length=_;rw[List.length_append,leB_length]);have HL:=Hd hl;clear h hl;go_enter Tryz.func80,Tryz.ntmps80;go_wp2_with fail;refine HA.out.mono ?_;rintro e w' ⟨rfl,rfl⟩;go_wp2_with fail;refine HP.out.mono ?_;rintro e w1 ⟨rfl,F1,hb1,ha1⟩;obtain⟨c6,_⟩:=hb1.cells;have f6:=hb1.frozen 6;have HB:=Hd (hb1.set6 false);have HAD:=Hd ha1;clear hb1 ha1;go_wp2_with fail;refine (Offset_b b F1 _ _ HB.out.1).mono ?_;rintro e w3 ⟨rfl,n3,rfl⟩;rw[HL.out];go_wp2_with fail;go_ret;exact⟨rfl,F1,HB.out.1.drewN _,(HAD.out.trans HB.out.2).drewN _⟩
theorem BRep.putAt{w:World}{b:Nat}{F:List Nat}{st:BSt}(h:BRep w b F st)(xs:List UInt8)(hz:xs.length<=st.m.room):
  ∃Y L c,Y∈F/\Y≠b/\w.cell? ⟨b,0,none⟩=some (.slice (some ⟨Y,0,none⟩) L (Array.size c))/\L=st.m.room+st.m.bytes.length/\L<=Array.size c/\L<=4000000/\w.heap[Y]?=some (.cells c 5) /\
   ∀nq,∃F',BRep (((w.setCell ⟨b,5,none⟩ (.int .u32 (st.m.room-xs.length:Nat))).drewN nq).setCells Y (st.m.room-xs.length) (cellsOf xs)) b F' { st with m:=st.m.put xs } /\
    Adv w (((w.setCell ⟨b,5,none⟩ (.int .u32 (st.m.room-xs.length:Nat))).drewN nq).setCells Y (st.m.room-xs.length) (cellsOf xs)) F F':=by
 obtain⟨Y,V,G,M,r,c,rfl,hb,ho⟩:=h;refine⟨Y,_,c,by simp,λe=>hb.ne e.symm,by rw[cell_of hb.hb];rfl,rfl,hb.fit,hb.lim,hb.hy,λnq=>?_⟩;obtain⟨h1,h2⟩:=hb.put xs hz nq;exact BRep.bytes hb ho (BBx.here ⟨_,h1⟩ h2)
theorem cellsOf_len(xs:List UInt8):(cellsOf xs).length=xs.length:=by simp[cellsOf]
def Src (w:World)(F:List Nat)(v:Value)(xs:List UInt8):Prop :=
 ∃B o cap,v=.slice (some ⟨B,o,none⟩) xs.length cap/\B<w.heap.size/\B ∉ F/\Mem w B o xs
theorem Src.adv{w w':World}{F F':List Nat}{v:Value}{xs:List UInt8}(h:Src w F v xs)(ha:Adv w w' F F'):Src w' F' v xs:=by
 obtain⟨B,o,cap,h1,h2,h3,h4⟩:=h;have hs:=ha.1.size;refine⟨B,o,cap,h1,by omega,λhm=>?_,λi x hx=>?_⟩
 ·rcases ha.2 B hm with h|h
  ·exact h3 h
  ·omega
 ·have:=h4 i x hx
  unfold World.cell? at this ⊢;rw[ha.1.block B h2 h3];exact this
theorem cell_setCell_other(w:World)(p q:Addr)(v:Value)(h:q.block≠p.block):(w.setCell p v).cell? q=w.cell? q:=by
 unfold World.cell?;have:(w.setCell p v).heap[q.block]?=w.heap[q.block]?:=Below.heap_setCell _ _ _ _ h
 rw[this]
def BSt.create(st:BSt)(xs:List UInt8)(zero:Bool):Option (Nat × BSt) :=
 BSt.endVec { st with m:=(if zero then (st.m.prep 4 (xs.length+1)).put [0] else st.m.prep 4 xs.length).put xs,nested:=true } xs.length
def BSt.created(st:BSt)(xs:List UInt8)(zero:Bool):Option (Nat × BSt):=if st.nested then none else st.create xs zero
theorem CreateString_calls(b:Nat)(F:List Nat)(st:BSt)(xs:List UInt8)(w:World)(h:BRep w b F st)(hx:xs.length<=100000)(hu:st.m.bytes.length<=1700000):
  Calls Tryz.prog 81 #[.pointer (some ⟨b,0,none⟩),.string (strOf xs)] w (BRes w b F (numRes (st.created xs true))):=by
 have HA:=Hd (assertNotNested_calls b F st w h);cases hne:st.nested with
 | true =>
  have e:numRes (st.created xs true)=none:=by unfold BSt.created numRes;rw[hne];rfl
  rw[e];rw[hne] at HA;clear h;go_enter Tryz.func81,Tryz.ntmps81;go_wp2_with fail;refine HA.out.mono ?_;rintro e w' ⟨⟨u,v,rfl⟩,rfl⟩;exact⟨rfl,⟨u,v,rfl⟩,Fr.refl _ _⟩
 | false =>
  have e:st.created xs true=st.create xs true:=by unfold BSt.created;rw[hne];rfl
  rw[e];rw[hne] at HA;obtain⟨c6,_⟩:=h.cells;have f6:=h.frozen 6;have HH:=Hd (h.set6 true);obtain⟨n,hn⟩:=exA (xs.length);have hmod:(n:Int)%4294967296=(n:Int):=by omega
  obtain⟨m1,hm1⟩:=exA (st.m.prep 4 (xs.length+1));have hroom:=st.m.prep_room 4 (xs.length+1);rw[<-hm1] at hroom;obtain⟨m2,hm2⟩:=exA (m1.put [0]);have hcr:st.create xs true=BSt.endVec { st with m:=m2.put xs,nested:=true } xs.length:=by unfold BSt.create;rw[hm2,hm1];rfl
  rw[hcr];rw[<-hn] at hx hroom ⊢;have hev:numRes (BSt.endVec { st with m:=m2.put xs,nested:=true } n)=some (.int .u32 (4+(m2.put xs).bytes.length:Nat),{ st with m:=(m2.put xs).put (leB 4 n),nested:=false }):=by
   have hm2r:m2.room=m1.room-1:=(by rw[hm2];rfl);unfold BSt.endVec numRes;rw[if_pos rfl,if_neg (by show ¬m2.room-xs.length<4;rw[<-hn];omega)];rfl
  rw[hev];have HEV:=Hd hev;clear hev;have HM1:=Hd hm1;have HM2:=Hd hm2;have HN:=Hd hn;have HR:=Hd hroom;have hsz:(strOf xs).size=n:=by rw[strOf_size,hn]
  have HS:=Hd hsz;obtain⟨S,hS⟩:=exA (strOf xs);have hszS:S.size=n:=by rw[hS];exact hsz
  rw[<-hS];have HSS:=Hd hS;clear hsz hS;obtain⟨q,hq⟩:=exA (n+1);have hqi:(n:Int)+1=(q:Int):=by omega
  have hqn:q<=100001:=by omega
  have HQ:=Hd hq;clear hq;clear h e hcr hm1 hm2 hroom hn;go_enter Tryz.func81,Tryz.ntmps81;go_wp2_with fail;refine HA.out.mono ?_;rintro e w' ⟨rfl,rfl⟩;go_wp2_with fail;refine (Prep_b b F _ 4 q _ HH.out.1 (by unfold algn;omega) (by show st.m.bytes.length+q<=_;omega)).mono ?_;rintro e w1 ⟨rfl,F1,hb1,ha1⟩;rw[HQ.out,HN.out,<-HM1.out] at hb1;have HAD1:=Hd (HH.out.2.trans ha1);have HB1:=Hd hb1;clear hb1 ha1;go_wp2_with fail;refine (BRep.liftP (xs:=leI 1 0) (z:=1) HB1.out (by rfl) (λY r c hb=>PlaceByte_ok b Y r _ _ _ c 0 (by decide) (by decide) w1 hb (by show 1<=m1.room;have:=HR.out;omega))).mono ?_;rintro e w2 ⟨rfl,F2,hb2,ha2⟩;rw[leI_zero] at hb2;have hb2':BRep w2 b F2 { st with m:=m2,nested:=true }:=by rw[HM2.out];exact hb2
  have HB2:=Hd hb2';have HAD2:=Hd (HAD1.out.trans ha2);clear hb2 hb2' ha2;have hz:xs.length<=m2.room:=by rw[<-HN.out];have:=HR.out;have hm2r:m2.room=m1.room-1:=(by rw[HM2.out];rfl);omega
  obtain⟨Y,L,c,hYF,hYb,d0,hL,hLc,hL4,hy,hput⟩:=HB2.out.putAt xs hz;obtain⟨room',hroom'⟩:∃room',room'=m2.room-xs.length:=⟨_,rfl⟩;have hput2:=hput;rw[show ({ st with m:=m2,nested:=true }:BSt).m.room-xs.length=room' from hroom'.symm] at hput2;have d5:=HB2.out.cells.2.2.2.1;have d5':w2.cell? ⟨b,5,none⟩=some (.int .u32 m2.room):=d5;have g5:=HB2.out.frozen 5;have hbk:∃cb,w2.heap[b]?=some (.cells cb 103)/\5<cb.size/\cb[0]?=some (.slice (some ⟨Y,0,none⟩) L c.size):=by
   obtain⟨Y',V,G,M,r,c',rfl,hb,ho⟩:=HB2.out;have:=cell_of hb.hb 0
   rw[d0] at this;exact⟨_,hb.hb,by simp[bCells],this.symm⟩
  obtain⟨cb,hcb,hcb5,hcb0⟩:=hbk;have hcb':=heap_setCell_same hcb 5 (.int .u32 (room':Nat));have e0:(w2.setCell ⟨b,5,none⟩ (.int .u32 (room':Nat))).cell? ⟨b,0,none⟩=some (.slice (some ⟨Y,0,none⟩) L c.size):=by
   rw[cell_of hcb',<-hcb0];simp
  have e5:(w2.setCell ⟨b,5,none⟩ (.int .u32 (room':Nat))).cell? ⟨b,5,none⟩=some (.int .u32 (room':Nat)):=by
   rw[cell_of hcb'];simp[hcb5]
  have hsub:((m2.room:Int)-(n:Int))%4294967296=(room':Int):=by rw[HN.out];have:({ st with m:=m2,nested:=true }:BSt).m.room=m2.room:=rfl;rw[this] at hL;omega
  have hL2:L=m2.room+m2.bytes.length:=hL;obtain⟨e2,he2⟩:=exA (room'+n);have hadd:((room':Int)+(n:Int))%4294967296=(e2:Int):=by rw[he2,HN.out];omega
  have hsl:=λw'=>run_slice_cut (P:=Tryz.prog) Tryz.underlying81 sizeU8b Y 0 L c.size .u32 .u32 (room':Int) (e2:Int) room' e2 rfl rfl (by omega) (by rw[he2,HN.out];omega) w';rw[show e2-room'=n by omega] at hsl;have hY1:∀nq,((w2.setCell ⟨b,5,none⟩ (.int .u32 (room':Nat))).drewN nq).heap[Y]?=some (.cells c 5):=λnq=>by
   show (w2.setCell ⟨b,5,none⟩ _).heap[Y]?=_;rw[heap_setCell_other _ _ _ _ hYb];exact hy
  have hcopy:∀nq ty,(Builtin.copy_ #[81,9] ty #[.slice (some ⟨Y,sOff 0 room' c.size,none⟩) n (c.size-room'),.string S]).run Tryz.prog ((w2.setCell ⟨b,5,none⟩ (.int .u32 (room':Nat))).drewN nq) =
    .ok (goInt n) (((w2.setCell ⟨b,5,none⟩ (.int .u32 (room':Nat))).drewN nq).setCells Y room' (cellsOf xs)):=by
   intro nq ty;have hoff:xs.length=0\/sOff 0 room' c.size=room':=by
    by_cases hx0:xs.length=0
    ·exact .inl hx0
    ·right;rw[sOff_lt (by omega),Nat.zero_add]
   rcases hoff with h0|h0
   ·have:=Go.run_copy_string (P:=Tryz.prog) ((w2.setCell ⟨b,5,none⟩ (.int .u32 (room':Nat))).drewN nq) 81 9 ty 5 Y (sOff 0 room' c.size) n (c.size-room') S Tryz.underlying81 (λw=>by
      obtain⟨i0,hi,hz0,hz1,hz2⟩:=info_parts' infoU8b;simp[sizeOf,typeInfo,hi,hz1]) (by rw[hszS];exact Nat.le_refl _) (λj hj=>by rw[hszS,HN.out] at hj;omega) (λj hj=>by rw[hszS,HN.out] at hj;omega)
    rw[this,hszS,HSS.out];have hxe:xs=[]:=List.eq_nil_of_length_eq_zero h0;subst hxe;rfl
   ·rw[h0];have:=Go.run_copy_string (P:=Tryz.prog) ((w2.setCell ⟨b,5,none⟩ (.int .u32 (room':Nat))).drewN nq) 81 9 ty 5 Y room' n (c.size-room') S Tryz.underlying81 (λw=>by
      obtain⟨i0,hi,hz0,hz1,hz2⟩:=info_parts' infoU8b;simp[sizeOf,typeInfo,hi,hz1]) (by rw[hszS];exact Nat.le_refl _) (λj hj=>by rw[cell_of (hY1 nq)];rw[hszS,HN.out] at hj;simp;omega) (λj hj=>frozen_of (hY1 nq) _)
    rw[this,hszS,HSS.out];rfl
  have HPUT:=Hd hput2;have HL:=Hd hL;clear he2 hput hput2 hL hLc hy hY1 hcb hcb' hcb5 hcb0 d5 hz hroom' hL2;go_wp2_with fail;refine lst _ ?_;simp only[List.dropLast];repeat (go_big_quiet_step (fail))
  refine wpQuiet_nil ?_;intro nq;refine wpOp_step rfl (λK hK=>?_);go_simp;refine hK _ _ ?_;obtain⟨F3,hb3,ha3⟩:=HPUT.out nq;generalize (((w2.setCell ⟨b,5,none⟩ (.int .u32 (room':Nat))).drewN nq).setCells Y room' (cellsOf xs))=w3 at *;have HB3:=Hd hb3;have HAD3:=Hd (HAD2.out.trans ha3);clear hb3 ha3 HPUT;go_wp2_with fail;refine (EndVector_calls b F3 _ n w3 HB3.out (by omega)).mono ?_;rw[HEV.out];rintro e w4 ⟨rfl,F4,hb4,ha4⟩;have HB4:=Hd hb4;have HAD4:=Hd (HAD3.out.trans ha4);clear hb4 ha4;go_wp2_with fail;go_ret;exact⟨rfl,F4,HB4.out,HAD4.out⟩
theorem CreateByteVector_calls(b:Nat)(F:List Nat)(st:BSt)(xs:List UInt8)(sv:Value)(w:World)(h:BRep w b F st)(hsv:Src w F sv xs)(hx:xs.length<=100000)(hu:st.m.bytes.length<=1700000):
  Calls Tryz.prog 83 #[.pointer (some ⟨b,0,none⟩),sv] w (BRes w b F (numRes (st.created xs false))):=by
 have HA:=Hd (assertNotNested_calls b F st w h);cases hne:st.nested with
 | true =>
  have e:numRes (st.created xs false)=none:=by unfold BSt.created numRes;rw[hne];rfl
  rw[e];rw[hne] at HA;clear h;go_enter Tryz.func83,Tryz.ntmps83;go_wp2_with fail;refine HA.out.mono ?_;rintro e w' ⟨⟨u,v,rfl⟩,rfl⟩;exact⟨rfl,⟨u,v,rfl⟩,Fr.refl _ _⟩
 | false =>
  have e:st.created xs false=st.create xs false:=by unfold BSt.created;rw[hne];rfl
  rw[e];rw[hne] at HA;obtain⟨c6,_⟩:=h.cells;have f6:=h.frozen 6;have HH:=Hd (h.set6 true);obtain⟨n,hn⟩:=exA (xs.length);have hmod:(n:Int)%4294967296=(n:Int):=by omega
  obtain⟨m1,hm1⟩:=exA (st.m.prep 4 (xs.length));have hroom:=st.m.prep_room 4 (xs.length);rw[<-hm1] at hroom;obtain⟨m2,hm2⟩:=exA (m1);have hcr:st.create xs false=BSt.endVec { st with m:=m2.put xs,nested:=true } xs.length:=by unfold BSt.create;rw[hm2,hm1];rfl
  rw[hcr];rw[<-hn] at hx hroom ⊢;have hev:numRes (BSt.endVec { st with m:=m2.put xs,nested:=true } n)=some (.int .u32 (4+(m2.put xs).bytes.length:Nat),{ st with m:=(m2.put xs).put (leB 4 n),nested:=false }):=by
   have hm2r:m2.room=m1.room:=(by rw[hm2]);unfold BSt.endVec numRes;rw[if_pos rfl,if_neg (by show ¬m2.room-xs.length<4;rw[<-hn];omega)];rfl
  rw[hev];have HEV:=Hd hev;clear hev;have HM1:=Hd hm1;have HM2:=Hd hm2;have HN:=Hd hn;have HR:=Hd hroom;have HSV:=Hd hsv;obtain⟨B,o,cap,hsve,hsvl,hsvF,hsvm⟩:=hsv;rw[<-hn] at hsve;rw[hsve];clear hsvl hsvF hsvm;clear h e hcr hm1 hm2 hroom hn;go_enter Tryz.func83,Tryz.ntmps83;go_wp2_with fail;refine HA.out.mono ?_;rintro e w' ⟨rfl,rfl⟩;go_wp2_with fail;refine (Prep_b b F _ 4 n _ HH.out.1 (by unfold algn;omega) (by show st.m.bytes.length+n<=_;omega)).mono ?_;rintro e w1 ⟨rfl,F1,hb1,ha1⟩;rw[HN.out,<-HM1.out] at hb1;have HAD1:=Hd (HH.out.2.trans ha1);have HB1:=Hd hb1;clear hb1 ha1;have hb2':BRep w1 b F1 { st with m:=m2,nested:=true }:=by rw[HM2.out];exact HB1.out
  have HB2:=Hd hb2';have HAD2:=HAD1;clear hb2';generalize w1=w2 at *;have hz:xs.length<=m2.room:=by rw[<-HN.out];have:=HR.out;have hm2r:m2.room=m1.room:=(by rw[HM2.out]);omega
  obtain⟨Y,L,c,hYF,hYb,d0,hL,hLc,hL4,hy,hput⟩:=HB2.out.putAt xs hz;obtain⟨room',hroom'⟩:∃room',room'=m2.room-xs.length:=⟨_,rfl⟩;have hput2:=hput;rw[show ({ st with m:=m2,nested:=true }:BSt).m.room-xs.length=room' from hroom'.symm] at hput2;have d5:=HB2.out.cells.2.2.2.1;have d5':w2.cell? ⟨b,5,none⟩=some (.int .u32 m2.room):=d5;have g5:=HB2.out.frozen 5;have hbk:∃cb,w2.heap[b]?=some (.cells cb 103)/\5<cb.size/\cb[0]?=some (.slice (some ⟨Y,0,none⟩) L c.size):=by
   obtain⟨Y',V,G,M,r,c',rfl,hb,ho⟩:=HB2.out;have:=cell_of hb.hb 0
   rw[d0] at this;exact⟨_,hb.hb,by simp[bCells],this.symm⟩
  obtain⟨cb,hcb,hcb5,hcb0⟩:=hbk;have hcb':=heap_setCell_same hcb 5 (.int .u32 (room':Nat));have e0:(w2.setCell ⟨b,5,none⟩ (.int .u32 (room':Nat))).cell? ⟨b,0,none⟩=some (.slice (some ⟨Y,0,none⟩) L c.size):=by
   rw[cell_of hcb',<-hcb0];simp
  have e5:(w2.setCell ⟨b,5,none⟩ (.int .u32 (room':Nat))).cell? ⟨b,5,none⟩=some (.int .u32 (room':Nat)):=by
   rw[cell_of hcb'];simp[hcb5]
  have hsub:((m2.room:Int)-(n:Int))%4294967296=(room':Int):=by rw[HN.out];have:({ st with m:=m2,nested:=true }:BSt).m.room=m2.room:=rfl;rw[this] at hL;omega
  have hL2:L=m2.room+m2.bytes.length:=hL;obtain⟨e2,he2⟩:=exA (room'+n);have hadd:((room':Int)+(n:Int))%4294967296=(e2:Int):=by rw[he2,HN.out];omega
  have hsl:=λw'=>run_slice_cut (P:=Tryz.prog) Tryz.underlying81 sizeU8b Y 0 L c.size .u32 .u32 (room':Int) (e2:Int) room' e2 rfl rfl (by omega) (by rw[he2,HN.out];omega) w';rw[show e2-room'=n by omega] at hsl;have hY1:∀nq,((w2.setCell ⟨b,5,none⟩ (.int .u32 (room':Nat))).drewN nq).heap[Y]?=some (.cells c 5):=λnq=>by
   show (w2.setCell ⟨b,5,none⟩ _).heap[Y]?=_;rw[heap_setCell_other _ _ _ _ hYb];exact hy
  have hcopy:∀nq ty,(Builtin.copy_ #[81,81] ty #[.slice (some ⟨Y,sOff 0 room' c.size,none⟩) n (c.size-room'),.slice (some ⟨B,o,none⟩) n cap]).run Tryz.prog ((w2.setCell ⟨b,5,none⟩ (.int .u32 (room':Nat))).drewN nq) =
    .ok (goInt n) (((w2.setCell ⟨b,5,none⟩ (.int .u32 (room':Nat))).drewN nq).setCells Y room' (cellsOf xs)):=by
   intro nq ty;have hoff:xs.length=0\/sOff 0 room' c.size=room':=by
    by_cases hx0:xs.length=0
    ·exact .inl hx0
    ·right;rw[sOff_lt (by omega),Nat.zero_add]
   obtain⟨B',o',cap',hve,hvl,hvF,hvm⟩:=HSV.out.adv HAD2.out;rw[hsve] at hve;injection hve with hv1 hv2 hv3;injection hv1 with hv1;injection hv1 with hv1 hv4;subst hv1 hv4;have hbF:=HB2.out.mem;have hsrc:∀j v,(cellsOf xs)[j]?=some v->((w2.setCell ⟨b,5,none⟩ (.int .u32 (room':Nat))).drewN nq).cell? ((⟨B,o,none⟩:Addr).add j)=some v:=by
    intro j v hj;have hadd:(⟨B,o,none⟩:Addr).add j=⟨B,o+j,none⟩:=by unfold Addr.add;split<;>simp_all
    rw[hadd];show (w2.setCell ⟨b,5,none⟩ (.int .u32 (room':Nat))).cell? _=_;rw[cell_setCell_other _ _ _ _ (show B≠b from λe=>hvF (e▸hbF))];unfold cellsOf at hj;rw[List.getElem?_map] at hj;cases hxj:xs[j]? with
    | none=>rw[hxj] at hj;cases hj
    | some x=>rw[hxj] at hj;injection hj with hj;rw[<-hj];exact hvm j x hxj
   have hone:∀v∈cellsOf xs,v.oneCell'=true:=cellsOf_one xs;rcases hoff with h0|h0
   ·have:=run_copy_cells (P:=Tryz.prog) ((w2.setCell ⟨b,5,none⟩ (.int .u32 (room':Nat))).drewN nq) 81 81 ty 5 Y (sOff 0 room' c.size) n (c.size-room') ⟨B,o,none⟩ n cap (cellsOf xs) Tryz.underlying81 sizeU8b (by rw[cellsOf_len,<-HN.out];show n=min n n;omega) hsrc (λj hj=>by rw[cellsOf_len] at hj;omega) (λj hj=>by rw[cellsOf_len] at hj;omega) hone
    rw[this,cellsOf_len,<-HN.out];have hxe:xs=[]:=List.eq_nil_of_length_eq_zero h0;subst hxe;rfl
   ·rw[h0];have:=run_copy_cells (P:=Tryz.prog) ((w2.setCell ⟨b,5,none⟩ (.int .u32 (room':Nat))).drewN nq) 81 81 ty 5 Y room' n (c.size-room') ⟨B,o,none⟩ n cap (cellsOf xs) Tryz.underlying81 sizeU8b (by rw[cellsOf_len,<-HN.out];show n=min n n;omega) hsrc (λj hj=>by rw[cell_of (hY1 nq)];rw[cellsOf_len] at hj;simp;omega) (λj hj=>frozen_of (hY1 nq) _) hone
    rw[this,cellsOf_len,<-HN.out]
  have HPUT:=Hd hput2;have HL:=Hd hL;clear he2 hput hput2 hL hLc hy hY1 hcb hcb' hcb5 hcb0 d5 hz hroom' hL2;go_wp2_with fail;refine lst _ ?_;simp only[List.dropLast];repeat (go_big_quiet_step (fail))
  refine wpQuiet_nil ?_;intro nq;refine wpOp_step rfl (λK hK=>?_);go_simp;refine hK _ _ ?_;obtain⟨F3,hb3,ha3⟩:=HPUT.out nq;generalize (((w2.setCell ⟨b,5,none⟩ (.int .u32 (room':Nat))).drewN nq).setCells Y room' (cellsOf xs))=w3 at *;have HB3:=Hd hb3;have HAD3:=Hd (HAD2.out.trans ha3);clear hb3 ha3 HPUT;go_wp2_with fail;refine (EndVector_calls b F3 _ n w3 HB3.out (by omega)).mono ?_;rw[HEV.out];rintro e w4 ⟨rfl,F4,hb4,ha4⟩;have HB4:=Hd hb4;have HAD4:=Hd (HAD3.out.trans ha4);clear hb4 ha4;go_wp2_with fail;go_ret;exact⟨rfl,F4,HB4.out,HAD4.out⟩
theorem Adv.falls{w w1 w2:World}{F F1:List Nat}{e:Ending}(h:Adv w w1 F F1)(k:Falls2 (λx=>x∈F1) w1 e w2):Falls2 (λx=>x∈F) w e w2:=by
 refine⟨k.1,h.1.trans2 k.2 (λi hi hm=>?_)⟩;rcases h.2 i hm with h|h
 ·exact h
 ·omega
def unitRes(o:Option BSt):Option (Value × BSt):=o.map λs=>(.tuple #[],s)
def BSt.prepSlot(st:BSt)(z:Nat)(xs:List UInt8)(i:Int)(same:Bool):Option BSt :=
 if same then some st else BSt.slot { st with m:=(st.m.prep z 0).put xs } i
theorem PrependUint8Slot_calls(b:Nat)(F:List Nat)(st:BSt)(i:Int)(x d:Int)(h0:0<=x)(h1:x<256)(q:Bool)(hq:(x==d)=q)(w:World)(h:BRep w b F st)(hu:st.m.bytes.length<=1900000):
  Calls Tryz.prog 129 #[.pointer (some ⟨b,0,none⟩),.int .i64 i,.int .u8 x,.int .u8 d] w (BRes w b F (unitRes (st.prepSlot 1 (leI 1 x) i q))):=by
 cases q with
 | true =>
  have HH:=Hd h;have hq2:(x != d)=false:=by simp only[bne,hq];rfl
  clear h;go_enter Tryz.func129,Tryz.ntmps129;go_wp2_with fail;go_end0
  exact⟨rfl,F,HH.out,Adv.refl _ _⟩
 | false =>
  have HP:=Hd (h.lift (m':=(st.m.prep 1 0).put (leI 1 x)) (λY r c hb=>PrependUint8_calls b Y r st.m c x h0 h1 w hb hu));have hq2:(x != d)=true:=by simp only[bne,hq];rfl
  have hs:(BSt.slot { st with m:=(st.m.prep 1 0).put (leI 1 x) } i=none)\/∃s,BSt.slot { st with m:=(st.m.prep 1 0).put (leI 1 x) } i=some s:=by
   cases BSt.slot { st with m:=(st.m.prep 1 0).put (leI 1 x) } i with
   | none=>exact .inl rfl
   | some s=>exact .inr ⟨s,rfl⟩
  show Calls _ _ _ _ (BRes w b F (unitRes (BSt.slot { st with m:=(st.m.prep 1 0).put (leI 1 x) } i)));clear h;rcases hs with hs|⟨s,hs⟩
  all_goals
   rw[hs];have HS:=Hd hs;clear hs;go_enter Tryz.func129,Tryz.ntmps129;go_wp2_with fail;refine HP.out.mono ?_;rintro e w1 ⟨rfl,F1,hb1,ha1⟩;have HC:=Hd (Slot_calls b F1 _ i w1 hb1);rw[HS.out] at HC;have HA:=Hd ha1;clear hb1 ha1;go_wp2_with fail
  ·refine HC.out.mono ?_;rintro e w2 ⟨⟨u,v,rfl⟩,hf⟩;exact⟨rfl,HA.out.falls ⟨⟨u,v,rfl⟩,hf⟩⟩
  ·refine HC.out.mono ?_;rintro e w2 ⟨rfl,F2,hb2,ha2⟩;have HB2:=Hd hb2;have HA2:=Hd ha2;clear hb2 ha2;go_wp2_with fail;go_end0
   exact⟨rfl,F2,HB2.out,HA.out.trans HA2.out⟩
theorem PrependByteSlot_calls(b:Nat)(F:List Nat)(st:BSt)(i:Int)(x d:Int)(h0:0<=x)(h1:x<256)(q:Bool)(hq:(x==d)=q)(w:World)(h:BRep w b F st)(hu:st.m.bytes.length<=1900000):
  Calls Tryz.prog 219 #[.pointer (some ⟨b,0,none⟩),.int .i64 i,.int .u8 x,.int .u8 d] w (BRes w b F (unitRes (st.prepSlot 1 (leI 1 x) i q))):=by
 cases q with
 | true =>
  have HH:=Hd h;have hq2:(x != d)=false:=by simp only[bne,hq];rfl
  clear h;go_enter Tryz.func219,Tryz.ntmps219;go_wp2_with fail;go_end0
  exact⟨rfl,F,HH.out,Adv.refl _ _⟩
 | false =>
  have HP:=Hd (h.lift (m':=(st.m.prep 1 0).put (leI 1 x)) (λY r c hb=>PrependByte_calls b Y r st.m c x h0 h1 w hb hu));have hq2:(x != d)=true:=by simp only[bne,hq];rfl
  have hs:(BSt.slot { st with m:=(st.m.prep 1 0).put (leI 1 x) } i=none)\/∃s,BSt.slot { st with m:=(st.m.prep 1 0).put (leI 1 x) } i=some s:=by
   cases BSt.slot { st with m:=(st.m.prep 1 0).put (leI 1 x) } i with
   | none=>exact .inl rfl
   | some s=>exact .inr ⟨s,rfl⟩
  show Calls _ _ _ _ (BRes w b F (unitRes (BSt.slot { st with m:=(st.m.prep 1 0).put (leI 1 x) } i)));clear h;rcases hs with hs|⟨s,hs⟩
  all_goals
   rw[hs];have HS:=Hd hs;clear hs;go_enter Tryz.func219,Tryz.ntmps219;go_wp2_with fail;refine HP.out.mono ?_;rintro e w1 ⟨rfl,F1,hb1,ha1⟩;have HC:=Hd (Slot_calls b F1 _ i w1 hb1);rw[HS.out] at HC;have HA:=Hd ha1;clear hb1 ha1;go_wp2_with fail
  ·refine HC.out.mono ?_;rintro e w2 ⟨⟨u,v,rfl⟩,hf⟩;exact⟨rfl,HA.out.falls ⟨⟨u,v,rfl⟩,hf⟩⟩
  ·refine HC.out.mono ?_;rintro e w2 ⟨rfl,F2,hb2,ha2⟩;have HB2:=Hd hb2;have HA2:=Hd ha2;clear hb2 ha2;go_wp2_with fail;go_end0
   exact⟨rfl,F2,HB2.out,HA.out.trans HA2.out⟩
theorem PrependInt8Slot_calls(b:Nat)(F:List Nat)(st:BSt)(i:Int)(x d:Int)(q:Bool)(hq:(x==d)=q)(w:World)(h:BRep w b F st)(hu:st.m.bytes.length<=1900000):
  Calls Tryz.prog 130 #[.pointer (some ⟨b,0,none⟩),.int .i64 i,.int .i8 x,.int .i8 d] w (BRes w b F (unitRes (st.prepSlot 1 (leI 1 x) i q))):=by
 cases q with
 | true =>
  have HH:=Hd h;have hq2:(x != d)=false:=by simp only[bne,hq];rfl
  clear h;go_enter Tryz.func130,Tryz.ntmps130;go_wp2_with fail;go_end0
  exact⟨rfl,F,HH.out,Adv.refl _ _⟩
 | false =>
  have HP:=Hd (h.lift (m':=(st.m.prep 1 0).put (leI 1 x)) (λY r c hb=>PrependInt8_calls b Y r st.m c x w hb hu));have hq2:(x != d)=true:=by simp only[bne,hq];rfl
  have hs:(BSt.slot { st with m:=(st.m.prep 1 0).put (leI 1 x) } i=none)\/∃s,BSt.slot { st with m:=(st.m.prep 1 0).put (leI 1 x) } i=some s:=by
   cases BSt.slot { st with m:=(st.m.prep 1 0).put (leI 1 x) } i with
   | none=>exact .inl rfl
   | some s=>exact .inr ⟨s,rfl⟩
  show Calls _ _ _ _ (BRes w b F (unitRes (BSt.slot { st with m:=(st.m.prep 1 0).put (leI 1 x) } i)));clear h;rcases hs with hs|⟨s,hs⟩
  all_goals
   rw[hs];have HS:=Hd hs;clear hs;go_enter Tryz.func130,Tryz.ntmps130;go_wp2_with fail;refine HP.out.mono ?_;rintro e w1 ⟨rfl,F1,hb1,ha1⟩;have HC:=Hd (Slot_calls b F1 _ i w1 hb1);rw[HS.out] at HC;have HA:=Hd ha1;clear hb1 ha1;go_wp2_with fail
  ·refine HC.out.mono ?_;rintro e w2 ⟨⟨u,v,rfl⟩,hf⟩;exact⟨rfl,HA.out.falls ⟨⟨u,v,rfl⟩,hf⟩⟩
  ·refine HC.out.mono ?_;rintro e w2 ⟨rfl,F2,hb2,ha2⟩;have HB2:=Hd hb2;have HA2:=Hd ha2;clear hb2 ha2;go_wp2_with fail;go_end0
   exact⟨rfl,F2,HB2.out,HA.out.trans HA2.out⟩
theorem PrependUint16Slot_calls(b:Nat)(F:List Nat)(st:BSt)(i:Int)(x d:Int)(q:Bool)(hq:(x==d)=q)(w:World)(h:BRep w b F st)(hu:st.m.bytes.length<=1900000):
  Calls Tryz.prog 131 #[.pointer (some ⟨b,0,none⟩),.int .i64 i,.int .u16 x,.int .u16 d] w (BRes w b F (unitRes (st.prepSlot 2 (leI 2 x) i q))):=by
 cases q with
 | true =>
  have HH:=Hd h;have hq2:(x != d)=false:=by simp only[bne,hq];rfl
  clear h;go_enter Tryz.func131,Tryz.ntmps131;go_wp2_with fail;go_end0
  exact⟨rfl,F,HH.out,Adv.refl _ _⟩
 | false =>
  have HP:=Hd (h.lift (m':=(st.m.prep 2 0).put (leI 2 x)) (λY r c hb=>PrependUint16_calls b Y r st.m c x w hb hu));have hq2:(x != d)=true:=by simp only[bne,hq];rfl
  have hs:(BSt.slot { st with m:=(st.m.prep 2 0).put (leI 2 x) } i=none)\/∃s,BSt.slot { st with m:=(st.m.prep 2 0).put (leI 2 x) } i=some s:=by
   cases BSt.slot { st with m:=(st.m.prep 2 0).put (leI 2 x) } i with
   | none=>exact .inl rfl
   | some s=>exact .inr ⟨s,rfl⟩
  show Calls _ _ _ _ (BRes w b F (unitRes (BSt.slot { st with m:=(st.m.prep 2 0).put (leI 2 x) } i)));clear h;rcases hs with hs|⟨s,hs⟩
  all_goals
   rw[hs];have HS:=Hd hs;clear hs;go_enter Tryz.func131,Tryz.ntmps131;go_wp2_with fail;refine HP.out.mono ?_;rintro e w1 ⟨rfl,F1,hb1,ha1⟩;have HC:=Hd (Slot_calls b F1 _ i w1 hb1);rw[HS.out] at HC;have HA:=Hd ha1;clear hb1 ha1;go_wp2_with fail
  ·refine HC.out.mono ?_;rintro e w2 ⟨⟨u,v,rfl⟩,hf⟩;exact⟨rfl,HA.out.falls ⟨⟨u,v,rfl⟩,hf⟩⟩
  ·refine HC.out.mono ?_;rintro e w2 ⟨rfl,F2,hb2,ha2⟩;have HB2:=Hd hb2;have HA2:=Hd ha2;clear hb2 ha2;go_wp2_with fail;go_end0
   exact⟨rfl,F2,HB2.out,HA.out.trans HA2.out⟩
theorem PrependInt16Slot_calls(b:Nat)(F:List Nat)(st:BSt)(i:Int)(x d:Int)(q:Bool)(hq:(x==d)=q)(w:World)(h:BRep w b F st)(hu:st.m.bytes.length<=1900000):
  Calls Tryz.prog 132 #[.pointer (some ⟨b,0,none⟩),.int .i64 i,.int .i16 x,.int .i16 d] w (BRes w b F (unitRes (st.prepSlot 2 (leI 2 x) i q))):=by
 cases q with
 | true =>
  have HH:=Hd h;have hq2:(x != d)=false:=by simp only[bne,hq];rfl
  clear h;go_enter Tryz.func132,Tryz.ntmps132;go_wp2_with fail;go_end0
  exact⟨rfl,F,HH.out,Adv.refl _ _⟩
 | false =>
  have HP:=Hd (h.lift (m':=(st.m.prep 2 0).put (leI 2 x)) (λY r c hb=>PrependInt16_calls b Y r st.m c x w hb hu));have hq2:(x != d)=true:=by simp only[bne,hq];rfl
  have hs:(BSt.slot { st with m:=(st.m.prep 2 0).put (leI 2 x) } i=none)\/∃s,BSt.slot { st with m:=(st.m.prep 2 0).put (leI 2 x) } i=some s:=by
   cases BSt.slot { st with m:=(st.m.prep 2 0).put (leI 2 x) } i with
   | none=>exact .inl rfl
   | some s=>exact .inr ⟨s,rfl⟩
  show Calls _ _ _ _ (BRes w b F (unitRes (BSt.slot { st with m:=(st.m.prep 2 0).put (leI 2 x) } i)));clear h;rcases hs with hs|⟨s,hs⟩
  all_goals
   rw[hs];have HS:=Hd hs;clear hs;go_enter Tryz.func132,Tryz.ntmps132;go_wp2_with fail;refine HP.out.mono ?_;rintro e w1 ⟨rfl,F1,hb1,ha1⟩;have HC:=Hd (Slot_calls b F1 _ i w1 hb1);rw[HS.out] at HC;have HA:=Hd ha1;clear hb1 ha1;go_wp2_with fail
  ·refine HC.out.mono ?_;rintro e w2 ⟨⟨u,v,rfl⟩,hf⟩;exact⟨rfl,HA.out.falls ⟨⟨u,v,rfl⟩,hf⟩⟩
  ·refine HC.out.mono ?_;rintro e w2 ⟨rfl,F2,hb2,ha2⟩;have HB2:=Hd hb2;have HA2:=Hd ha2;clear hb2 ha2;go_wp2_with fail;go_end0
   exact⟨rfl,F2,HB2.out,HA.out.trans HA2.out⟩
theorem PrependUint32Slot_calls(b:Nat)(F:List Nat)(st:BSt)(i:Int)(x d:Int)(q:Bool)(hq:(x==d)=q)(w:World)(h:BRep w b F st)(hu:st.m.bytes.length<=1900000):
  Calls Tryz.prog 133 #[.pointer (some ⟨b,0,none⟩),.int .i64 i,.int .u32 x,.int .u32 d] w (BRes w b F (unitRes (st.prepSlot 4 (leI 4 x) i q))):=by
 cases q with
 | true =>
  have HH:=Hd h;have hq2:(x != d)=false:=by simp only[bne,hq];rfl
  clear h;go_enter Tryz.func133,Tryz.ntmps133;go_wp2_with fail;go_end0
  exact⟨rfl,F,HH.out,Adv.refl _ _⟩
 | false =>
  have HP:=Hd (h.lift (m':=(st.m.prep 4 0).put (leI 4 x)) (λY r c hb=>PrependUint32_calls b Y r st.m c x w hb hu));have hq2:(x != d)=true:=by simp only[bne,hq];rfl
  have hs:(BSt.slot { st with m:=(st.m.prep 4 0).put (leI 4 x) } i=none)\/∃s,BSt.slot { st with m:=(st.m.prep 4 0).put (leI 4 x) } i=some s:=by
   cases BSt.slot { st with m:=(st.m.prep 4 0).put (leI 4 x) } i with
   | none=>exact .inl rfl
   | some s=>exact .inr ⟨s,rfl⟩
  show Calls _ _ _ _ (BRes w b F (unitRes (BSt.slot { st with m:=(st.m.prep 4 0).put (leI 4 x) } i)));clear h;rcases hs with hs|⟨s,hs⟩
  all_goals
   rw[hs];have HS:=Hd hs;clear hs;go_enter Tryz.func133,Tryz.ntmps133;go_wp2_with fail;refine HP.out.mono ?_;rintro e w1 ⟨rfl,F1,hb1,ha1⟩;have HC:=Hd (Slot_calls b F1 _ i w1 hb1);rw[HS.out] at HC;have HA:=Hd ha1;clear hb1 ha1;go_wp2_with fail
  ·refine HC.out.mono ?_;rintro e w2 ⟨⟨u,v,rfl⟩,hf⟩;exact⟨rfl,HA.out.falls ⟨⟨u,v,rfl⟩,hf⟩⟩
  ·refine HC.out.mono ?_;rintro e w2 ⟨rfl,F2,hb2,ha2⟩;have HB2:=Hd hb2;have HA2:=Hd ha2;clear hb2 ha2;go_wp2_with fail;go_end0
   exact⟨rfl,F2,HB2.out,HA.out.trans HA2.out⟩
theorem PrependInt32Slot_calls(b:Nat)(F:List Nat)(st:BSt)(i:Int)(x d:Int)(q:Bool)(hq:(x==d)=q)(w:World)(h:BRep w b F st)(hu:st.m.bytes.length<=1900000):
  Calls Tryz.prog 134 #[.pointer (some ⟨b,0,none⟩),.int .i64 i,.int .i32 x,.int .i32 d] w (BRes w b F (unitRes (st.prepSlot 4 (leI 4 x) i q))):=by
 cases q with
 | true =>
  have HH:=Hd h;have hq2:(x != d)=false:=by simp only[bne,hq];rfl
  clear h;go_enter Tryz.func134,Tryz.ntmps134;go_wp2_with fail;go_end0
  exact⟨rfl,F,HH.out,Adv.refl _ _⟩
 | false =>
  have HP:=Hd (h.lift (m':=(st.m.prep 4 0).put (leI 4 x)) (λY r c hb=>PrependInt32_calls b Y r st.m c x w hb hu));have hq2:(x != d)=true:=by simp only[bne,hq];rfl
  have hs:(BSt.slot { st with m:=(st.m.prep 4 0).put (leI 4 x) } i=none)\/∃s,BSt.slot { st with m:=(st.m.prep 4 0).put (leI 4 x) } i=some s:=by
   cases BSt.slot { st with m:=(st.m.prep 4 0).put (leI 4 x) } i with
   | none=>exact .inl rfl
   | some s=>exact .inr ⟨s,rfl⟩
  show Calls _ _ _ _ (BRes w b F (unitRes (BSt.slot { st with m:=(st.m.prep 4 0).put (leI 4 x) } i)));clear h;rcases hs with hs|⟨s,hs⟩
  all_goals
   rw[hs];have HS:=Hd hs;clear hs;go_enter Tryz.func134,Tryz.ntmps134;go_wp2_with fail;refine HP.out.mono ?_;rintro e w1 ⟨rfl,F1,hb1,ha1⟩;have HC:=Hd (Slot_calls b F1 _ i w1 hb1);rw[HS.out] at HC;have HA:=Hd ha1;clear hb1 ha1;go_wp2_with fail
  ·refine HC.out.mono ?_;rintro e w2 ⟨⟨u,v,rfl⟩,hf⟩;exact⟨rfl,HA.out.falls ⟨⟨u,v,rfl⟩,hf⟩⟩
  ·refine HC.out.mono ?_;rintro e w2 ⟨rfl,F2,hb2,ha2⟩;have HB2:=Hd hb2;have HA2:=Hd ha2;clear hb2 ha2;go_wp2_with fail;go_end0
   exact⟨rfl,F2,HB2.out,HA.out.trans HA2.out⟩
theorem PrependUint64Slot_calls(b:Nat)(F:List Nat)(st:BSt)(i:Int)(x d:Int)(q:Bool)(hq:(x==d)=q)(w:World)(h:BRep w b F st)(hu:st.m.bytes.length<=1900000):
  Calls Tryz.prog 135 #[.pointer (some ⟨b,0,none⟩),.int .i64 i,.int .u64 x,.int .u64 d] w (BRes w b F (unitRes (st.prepSlot 8 (leI 8 x) i q))):=by
 cases q with
 | true =>
  have HH:=Hd h;have hq2:(x != d)=false:=by simp only[bne,hq];rfl
  clear h;go_enter Tryz.func135,Tryz.ntmps135;go_wp2_with fail;go_end0
  exact⟨rfl,F,HH.out,Adv.refl _ _⟩
 | false =>
  have HP:=Hd (h.lift (m':=(st.m.prep 8 0).put (leI 8 x)) (λY r c hb=>PrependUint64_calls b Y r st.m c x w hb hu));have hq2:(x != d)=true:=by simp only[bne,hq];rfl
  have hs:(BSt.slot { st with m:=(st.m.prep 8 0).put (leI 8 x) } i=none)\/∃s,BSt.slot { st with m:=(st.m.prep 8 0).put (leI 8 x) } i=some s:=by
   cases BSt.slot { st with m:=(st.m.prep 8 0).put (leI 8 x) } i with
   | none=>exact .inl rfl
   | some s=>exact .inr ⟨s,rfl⟩
  show Calls _ _ _ _ (BRes w b F (unitRes (BSt.slot { st with m:=(st.m.prep 8 0).put (leI 8 x) } i)));clear h;rcases hs with hs|⟨s,hs⟩
  all_goals
   rw[hs];have HS:=Hd hs;clear hs;go_enter Tryz.func135,Tryz.ntmps135;go_wp2_with fail;refine HP.out.mono ?_;rintro e w1 ⟨rfl,F1,hb1,ha1⟩;have HC:=Hd (Slot_calls b F1 _ i w1 hb1);rw[HS.out] at HC;have HA:=Hd ha1;clear hb1 ha1;go_wp2_with fail
  ·refine HC.out.mono ?_;rintro e w2 ⟨⟨u,v,rfl⟩,hf⟩;exact⟨rfl,HA.out.falls ⟨⟨u,v,rfl⟩,hf⟩⟩
  ·refine HC.out.mono ?_;rintro e w2 ⟨rfl,F2,hb2,ha2⟩;have HB2:=Hd hb2;have HA2:=Hd ha2;clear hb2 ha2;go_wp2_with fail;go_end0
   exact⟨rfl,F2,HB2.out,HA.out.trans HA2.out⟩
theorem PrependInt64Slot_calls(b:Nat)(F:List Nat)(st:BSt)(i:Int)(x d:Int)(q:Bool)(hq:(x==d)=q)(w:World)(h:BRep w b F st)(hu:st.m.bytes.length<=1900000):
  Calls Tryz.prog 136 #[.pointer (some ⟨b,0,none⟩),.int .i64 i,.int .i64 x,.int .i64 d] w (BRes w b F (unitRes (st.prepSlot 8 (leI 8 x) i q))):=by
 cases q with
 | true =>
  have HH:=Hd h;have hq2:(x != d)=false:=by simp only[bne,hq];rfl
  clear h;go_enter Tryz.func136,Tryz.ntmps136;go_wp2_with fail;go_end0
  exact⟨rfl,F,HH.out,Adv.refl _ _⟩
 | false =>
  have HP:=Hd (h.lift (m':=(st.m.prep 8 0).put (leI 8 x)) (λY r c hb=>PrependInt64_calls b Y r st.m c x w hb hu));have hq2:(x != d)=true:=by simp only[bne,hq];rfl
  have hs:(BSt.slot { st with m:=(st.m.prep 8 0).put (leI 8 x) } i=none)\/∃s,BSt.slot { st with m:=(st.m.prep 8 0).put (leI 8 x) } i=some s:=by
   cases BSt.slot { st with m:=(st.m.prep 8 0).put (leI 8 x) } i with
   | none=>exact .inl rfl
   | some s=>exact .inr ⟨s,rfl⟩
  show Calls _ _ _ _ (BRes w b F (unitRes (BSt.slot { st with m:=(st.m.prep 8 0).put (leI 8 x) } i)));clear h;rcases hs with hs|⟨s,hs⟩
  all_goals
   rw[hs];have HS:=Hd hs;clear hs;go_enter Tryz.func136,Tryz.ntmps136;go_wp2_with fail;refine HP.out.mono ?_;rintro e w1 ⟨rfl,F1,hb1,ha1⟩;have HC:=Hd (Slot_calls b F1 _ i w1 hb1);rw[HS.out] at HC;have HA:=Hd ha1;clear hb1 ha1;go_wp2_with fail
  ·refine HC.out.mono ?_;rintro e w2 ⟨⟨u,v,rfl⟩,hf⟩;exact⟨rfl,HA.out.falls ⟨⟨u,v,rfl⟩,hf⟩⟩
  ·refine HC.out.mono ?_;rintro e w2 ⟨rfl,F2,hb2,ha2⟩;have HB2:=Hd hb2;have HA2:=Hd ha2;clear hb2 ha2;go_wp2_with fail;go_end0
   exact⟨rfl,F2,HB2.out,HA.out.trans HA2.out⟩
theorem PrependFloat32Slot_calls(b:Nat)(F:List Nat)(st:BSt)(i:Int)(x d:Nat)(q:Bool)(hq:(Op.floatEq .f32 x d)=q)(w:World)(h:BRep w b F st)(hu:st.m.bytes.length<=1900000):
  Calls Tryz.prog 137 #[.pointer (some ⟨b,0,none⟩),.int .i64 i,.float .f32 x,.float .f32 d] w (BRes w b F (unitRes (st.prepSlot 4 (leI 4 x) i q))):=by
 cases q with
 | true =>
  have HH:=Hd h;have hq1:(FloatKind.f32.format.order x d==some .eq)=true:=hq;have hq2:(FloatKind.f32.format.order x d != some .eq)=false:=by simp only[bne,hq1];rfl
  clear h hq;go_enter Tryz.func137,Tryz.ntmps137;go_wp2_with fail;go_end0
  exact⟨rfl,F,HH.out,Adv.refl _ _⟩
 | false =>
  have HP:=Hd (h.lift (m':=(st.m.prep 4 0).put (leI 4 x)) (λY r c hb=>PrependFloat32_calls b Y r st.m c x w hb hu));have hq1:(FloatKind.f32.format.order x d==some .eq)=false:=hq;have hq2:(FloatKind.f32.format.order x d != some .eq)=true:=by simp only[bne,hq1];rfl
  have hs:(BSt.slot { st with m:=(st.m.prep 4 0).put (leI 4 x) } i=none)\/∃s,BSt.slot { st with m:=(st.m.prep 4 0).put (leI 4 x) } i=some s:=by
   cases BSt.slot { st with m:=(st.m.prep 4 0).put (leI 4 x) } i with
   | none=>exact .inl rfl
   | some s=>exact .inr ⟨s,rfl⟩
  show Calls _ _ _ _ (BRes w b F (unitRes (BSt.slot { st with m:=(st.m.prep 4 0).put (leI 4 x) } i)));clear h hq;rcases hs with hs|⟨s,hs⟩
  all_goals
   rw[hs];have HS:=Hd hs;clear hs;go_enter Tryz.func137,Tryz.ntmps137;go_wp2_with fail;refine HP.out.mono ?_;rintro e w1 ⟨rfl,F1,hb1,ha1⟩;have HC:=Hd (Slot_calls b F1 _ i w1 hb1);rw[HS.out] at HC;have HA:=Hd ha1;clear hb1 ha1;go_wp2_with fail
  ·refine HC.out.mono ?_;rintro e w2 ⟨⟨u,v,rfl⟩,hf⟩;exact⟨rfl,HA.out.falls ⟨⟨u,v,rfl⟩,hf⟩⟩
  ·refine HC.out.mono ?_;rintro e w2 ⟨rfl,F2,hb2,ha2⟩;have HB2:=Hd hb2;have HA2:=Hd ha2;clear hb2 ha2;go_wp2_with fail;go_end0
   exact⟨rfl,F2,HB2.out,HA.out.trans HA2.out⟩
theorem PrependFloat64Slot_calls(b:Nat)(F:List Nat)(st:BSt)(i:Int)(x d:Nat)(q:Bool)(hq:(Op.floatEq .f64 x d)=q)(w:World)(h:BRep w b F st)(hu:st.m.bytes.length<=1900000):
  Calls Tryz.prog 138 #[.pointer (some ⟨b,0,none⟩),.int .i64 i,.float .f64 x,.float .f64 d] w (BRes w b F (unitRes (st.prepSlot 8 (leI 8 x) i q))):=by
 cases q with
 | true =>
  have HH:=Hd h;have hq1:(FloatKind.f64.format.order x d==some .eq)=true:=hq;have hq2:(FloatKind.f64.format.order x d != some .eq)=false:=by simp only[bne,hq1];rfl
  clear h hq;go_enter Tryz.func138,Tryz.ntmps138;go_wp2_with fail;go_end0
  exact⟨rfl,F,HH.out,Adv.refl _ _⟩
 | false =>
  have HP:=Hd (h.lift (m':=(st.m.prep 8 0).put (leI 8 x)) (λY r c hb=>PrependFloat64_calls b Y r st.m c x w hb hu));have hq1:(FloatKind.f64.format.order x d==some .eq)=false:=hq;have hq2:(FloatKind.f64.format.order x d != some .eq)=true:=by simp only[bne,hq1];rfl
  have hs:(BSt.slot { st with m:=(st.m.prep 8 0).put (leI 8 x) } i=none)\/∃s,BSt.slot { st with m:=(st.m.prep 8 0).put (leI 8 x) } i=some s:=by
   cases BSt.slot { st with m:=(st.m.prep 8 0).put (leI 8 x) } i with
   | none=>exact .inl rfl
   | some s=>exact .inr ⟨s,rfl⟩
  show Calls _ _ _ _ (BRes w b F (unitRes (BSt.slot { st with m:=(st.m.prep 8 0).put (leI 8 x) } i)));clear h hq;rcases hs with hs|⟨s,hs⟩
  all_goals
   rw[hs];have HS:=Hd hs;clear hs;go_enter Tryz.func138,Tryz.ntmps138;go_wp2_with fail;refine HP.out.mono ?_;rintro e w1 ⟨rfl,F1,hb1,ha1⟩;have HC:=Hd (Slot_calls b F1 _ i w1 hb1);rw[HS.out] at HC;have HA:=Hd ha1;clear hb1 ha1;go_wp2_with fail
  ·refine HC.out.mono ?_;rintro e w2 ⟨⟨u,v,rfl⟩,hf⟩;exact⟨rfl,HA.out.falls ⟨⟨u,v,rfl⟩,hf⟩⟩
  ·refine HC.out.mono ?_;rintro e w2 ⟨rfl,F2,hb2,ha2⟩;have HB2:=Hd hb2;have HA2:=Hd ha2;clear hb2 ha2;go_wp2_with fail;go_end0
   exact⟨rfl,F2,HB2.out,HA.out.trans HA2.out⟩
end Go.Proofs.YtcfblkkpclfmaaaGreat
