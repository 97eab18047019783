/- Part 5 of the proof of FnEvolved; no condition. -/
import Derived.Test.YtcfblkkpclfmaaaGreatEb04
set_option linter.unusedVariables false
set_option linter.unusedSimpArgs false
set_option maxRecDepth 100000
set_option maxHeartbeats 16000000
namespace Go.Proofs.YtcfblkkpclfmaaaGreat
open Go.RowKit
theorem BB.y1{w:World}{b Y:Nat}{r:BRest}{room least:Nat}{bytes:List UInt8}{c:Array Value}(h:BB w b Y r room least bytes c)(u:Value)(nq:Nat):((w.setCell ⟨b,5,none⟩ u).drewN nq).heap[Y]?=some (.cells c 5):=by
 show (w.setCell ⟨b,5,none⟩ _).heap[Y]?=_;rw[heap_setCell_other _ _ _ _ (show Y≠b from λe=>h.ne e.symm)];exact h.hy
theorem wp_region_last'{P:Program}{Q:Exit->Act->World->Prop}{id:Nat}{a:Act}{w:World}(ops:List Oper)(hne:ops≠[])(hm:P.follows .mixedOrders=true)(hB:Region.lexB .any ops.dropLast.toArray=true)(hel:earlier ops.dropLast.toArray=true)(heo:earlier ops.toArray=true)
  (hre:allReach ops.toArray ops.dropLast.length=true) (hg:ops.all (λx=>x.guard.isNone)=true)
  (h:wpQuiet P ops.dropLast.toArray (λw'=>∃n,w'=w.drewN n) (λa'=>∀n,wpOp P ops.toArray Q ops.dropLast.length (Q .normal) a' (w.drewN n)) ops.dropLast a):(Code.region id ops.toArray true).wp P Q a w:=by
 refine wp_region_last ops ops.dropLast (ops.getLast hne) (List.dropLast_concat_getLast hne).symm hm hB hel heo hre hg ?_;have e:(λa'=>∀n,wpOp P ops.toArray Q ops.dropLast.length (Q .normal) a' (w.drewN n))=(λa'=>∀w',(∃n,w'=w.drewN n)->wpOp P ops.toArray Q ops.dropLast.length (Q .normal) a' w'):=by
  funext a'
  apply propext
  constructor
  ·rintro h w' ⟨n,rfl⟩;exact h n
  ·intro h n;exact h _ ⟨n,rfl⟩
 rwa [e] at h
theorem lst{P:Program}{Q:Exit->Act->World->Prop}{id:Nat}{a:Act}{w:World}(ops:List Oper)(h:wpQuiet P ops.dropLast.toArray (λw'=>∃n,w'=w.drewN n) (λa'=>∀n,wpOp P ops.toArray Q ops.dropLast.length (Q .normal) a' (w.drewN n)) ops.dropLast a)(hne:ops≠[]:=by simp)(hm:P.follows .mixedOrders=true:=by kernel_rfl)(hB:Region.lexB .any ops.dropLast.toArray=true:=by kernel_rfl)(hel:earlier ops.dropLast.toArray=true:=by kernel_rfl)(heo:earlier ops.toArray=true:=by kernel_rfl)(hre:allReach ops.toArray ops.dropLast.length=true:=by kernel_rfl)(hg:ops.all (λx=>x.guard.isNone)=true:=by kernel_rfl):(Code.region id ops.toArray true).wp P Q a w:=wp_region_last' ops hne hm hB hel heo hre hg h
def b01 (x:Bool):Int:=if x then 1 else 0
theorem WriteBoolB_ok(b off len cap:Nat)(x:Bool)(c:Array Value)(t:TypeId)(w:World)(hb:w.heap[b]?=some (.cells c t (0,0)))(hfit:off+len<=c.size)(hs:1<=len):
  Calls Tryz.prog 222 #[.slice (some ⟨b,off,none⟩) len cap,.bool x] w λe w'=>e=.returned (.tuple #[])/\w.setCells b off (cellsOf (leI 1 (b01 x)))=w' :=
 WriteBool_ok b off len cap x c t w hb hfit hs
theorem PlaceBool_ok(b Y:Nat)(r:BRest)(room least:Nat)(bytes:List UInt8)(c:Array Value)(x:Bool)(w:World)(h:BB w b Y r room least bytes c)(hr:1<=room):
  Calls Tryz.prog 143 #[.pointer (some ⟨b,0,none⟩),.bool x] w λe w'=>e=.returned (.tuple #[])/\(∃c',BB w' b Y r (room-1) least (leI 1 (b01 x)++bytes) c')/\Fr (λk=>k=b\/k=Y) w w':=by
 have hlim:=h.lim;have hfit:=h.fit;have hxl:(leI 1 (b01 x)).length=1:=by first|rfl|simp
 obtain⟨room',hroom⟩:∃room',room'=room-1:=⟨_,rfl⟩;have hd:(((room:Nat):Int)-1)%4294967296=((room':Nat):Int):=by omega
 have hput:=λnq=>h.put (leI 1 (b01 x)) (by rw[hxl];exact hr) nq;rw[hxl,<-hroom] at hput;have hsl:=λw'=>run_slice_from (P:=Tryz.prog) Tryz.underlying81 sizeU8b Y 0 (room+bytes.length) c.size .u32 room' room' rfl (by omega) w';rw[sOff_lt (by omega),Nat.zero_add] at hsl;have hy1:=λnq=>h.y1 (.int .u32 (room':Nat)) nq;have HC:=Hd (λnq=>WriteBoolB_ok Y room' (room+bytes.length-room') (c.size-room') x c 5 _ (hy1 nq) (by omega) (by omega));have HP:=Hd hput;have hc1:=heap_setCell_same h.hb 5 (.int .u32 (room':Nat));have c5:w.cell? ⟨b,5,none⟩=some (.int .u32 room):=by rw[cell_of h.hb];rfl
 have f5:=frozen_of h.hb 5;have d0:(w.setCell ⟨b,5,none⟩ (.int .u32 (room':Nat))).cell? ⟨b,0,none⟩=some (.slice (some ⟨Y,0,none⟩) (room+bytes.length) c.size):=by rw[cell_of hc1];rfl
 have d5:(w.setCell ⟨b,5,none⟩ (.int .u32 (room':Nat))).cell? ⟨b,5,none⟩=some (.int .u32 (room':Nat)):=by rw[cell_of hc1];rfl
 have HR:=Hd hroom;clear h hput hy1 hc1 hlim hfit hxl hr hroom;go_enter Tryz.func143,Tryz.ntmps143;go_wp2_with fail;refine lst _ ?_;simp only[List.dropLast];repeat (go_big_quiet_step (fail))
 refine wpQuiet_nil ?_;intro nq;refine wpOp_step rfl (λK hK=>?_);go_simp;refine (HC.out nq).mono ?_;rintro e w' ⟨rfl,rfl⟩;refine hK _ _ ?_;go_wp2_with fail;go_end0
 exact⟨rfl,⟨_,by rw[<-HR.out];exact (HP.out nq).1⟩,(HP.out nq).2⟩
theorem PlaceUint8_ok(b Y:Nat)(r:BRest)(room least:Nat)(bytes:List UInt8)(c:Array Value)(x:Int)(h0:0<=x)(h1:x<256)(w:World)(h:BB w b Y r room least bytes c)(hr:1<=room):
  Calls Tryz.prog 144 #[.pointer (some ⟨b,0,none⟩),.int .u8 x] w λe w'=>e=.returned (.tuple #[])/\(∃c',BB w' b Y r (room-1) least (leI 1 x++bytes) c')/\Fr (λk=>k=b\/k=Y) w w':=by
 have hlim:=h.lim;have hfit:=h.fit;have hxl:(leI 1 x).length=1:=by first|rfl|simp
 obtain⟨room',hroom⟩:∃room',room'=room-1:=⟨_,rfl⟩;have hd:(((room:Nat):Int)-1)%4294967296=((room':Nat):Int):=by omega
 have hput:=λnq=>h.put (leI 1 x) (by rw[hxl];exact hr) nq;rw[hxl,<-hroom] at hput;have hsl:=λw'=>run_slice_from (P:=Tryz.prog) Tryz.underlying81 sizeU8b Y 0 (room+bytes.length) c.size .u32 room' room' rfl (by omega) w';rw[sOff_lt (by omega),Nat.zero_add] at hsl;have hy1:=λnq=>h.y1 (.int .u32 (room':Nat)) nq;have HC:=Hd (λnq=>WriteUint8_ok Y room' (room+bytes.length-room') (c.size-room') x c 5 _ (hy1 nq) (by omega) (by omega) h0 h1);have HP:=Hd hput;have hc1:=heap_setCell_same h.hb 5 (.int .u32 (room':Nat));have c5:w.cell? ⟨b,5,none⟩=some (.int .u32 room):=by rw[cell_of h.hb];rfl
 have f5:=frozen_of h.hb 5;have d0:(w.setCell ⟨b,5,none⟩ (.int .u32 (room':Nat))).cell? ⟨b,0,none⟩=some (.slice (some ⟨Y,0,none⟩) (room+bytes.length) c.size):=by rw[cell_of hc1];rfl
 have d5:(w.setCell ⟨b,5,none⟩ (.int .u32 (room':Nat))).cell? ⟨b,5,none⟩=some (.int .u32 (room':Nat)):=by rw[cell_of hc1];rfl
 have HR:=Hd hroom;clear h hput hy1 hc1 hlim hfit hxl hr hroom;go_enter Tryz.func144,Tryz.ntmps144;go_wp2_with fail;refine lst _ ?_;simp only[List.dropLast];repeat (go_big_quiet_step (fail))
 refine wpQuiet_nil ?_;intro nq;refine wpOp_step rfl (λK hK=>?_);go_simp;refine (HC.out nq).mono ?_;rintro e w' ⟨rfl,rfl⟩;refine hK _ _ ?_;go_wp2_with fail;go_end0
 exact⟨rfl,⟨_,by rw[<-HR.out];exact (HP.out nq).1⟩,(HP.out nq).2⟩
theorem PlaceByte_ok(b Y:Nat)(r:BRest)(room least:Nat)(bytes:List UInt8)(c:Array Value)(x:Int)(h0:0<=x)(h1:x<256)(w:World)(h:BB w b Y r room least bytes c)(hr:1<=room):
  Calls Tryz.prog 109 #[.pointer (some ⟨b,0,none⟩),.int .u8 x] w λe w'=>e=.returned (.tuple #[])/\(∃c',BB w' b Y r (room-1) least (leI 1 x++bytes) c')/\Fr (λk=>k=b\/k=Y) w w':=by
 have hlim:=h.lim;have hfit:=h.fit;have hxl:(leI 1 x).length=1:=by first|rfl|simp
 obtain⟨room',hroom⟩:∃room',room'=room-1:=⟨_,rfl⟩;have hd:(((room:Nat):Int)-1)%4294967296=((room':Nat):Int):=by omega
 have hput:=λnq=>h.put (leI 1 x) (by rw[hxl];exact hr) nq;rw[hxl,<-hroom] at hput;have hsl:=λw'=>run_slice_from (P:=Tryz.prog) Tryz.underlying81 sizeU8b Y 0 (room+bytes.length) c.size .u32 room' room' rfl (by omega) w';rw[sOff_lt (by omega),Nat.zero_add] at hsl;have hy1:=λnq=>h.y1 (.int .u32 (room':Nat)) nq;have HC:=Hd (λnq=>WriteByte_ok Y room' (room+bytes.length-room') (c.size-room') x c 5 _ (hy1 nq) (by omega) (by omega) h0 h1);have HP:=Hd hput;have hc1:=heap_setCell_same h.hb 5 (.int .u32 (room':Nat));have c5:w.cell? ⟨b,5,none⟩=some (.int .u32 room):=by rw[cell_of h.hb];rfl
 have f5:=frozen_of h.hb 5;have d0:(w.setCell ⟨b,5,none⟩ (.int .u32 (room':Nat))).cell? ⟨b,0,none⟩=some (.slice (some ⟨Y,0,none⟩) (room+bytes.length) c.size):=by rw[cell_of hc1];rfl
 have d5:(w.setCell ⟨b,5,none⟩ (.int .u32 (room':Nat))).cell? ⟨b,5,none⟩=some (.int .u32 (room':Nat)):=by rw[cell_of hc1];rfl
 have HR:=Hd hroom;clear h hput hy1 hc1 hlim hfit hxl hr hroom;go_enter Tryz.func109,Tryz.ntmps109;go_wp2_with fail;refine lst _ ?_;simp only[List.dropLast];repeat (go_big_quiet_step (fail))
 refine wpQuiet_nil ?_;intro nq;refine wpOp_step rfl (λK hK=>?_);go_simp;refine (HC.out nq).mono ?_;rintro e w' ⟨rfl,rfl⟩;refine hK _ _ ?_;go_wp2_with fail;go_end0
 exact⟨rfl,⟨_,by rw[<-HR.out];exact (HP.out nq).1⟩,(HP.out nq).2⟩
theorem PlaceInt8_ok(b Y:Nat)(r:BRest)(room least:Nat)(bytes:List UInt8)(c:Array Value)(x:Int)(w:World)(h:BB w b Y r room least bytes c)(hr:1<=room):
  Calls Tryz.prog 145 #[.pointer (some ⟨b,0,none⟩),.int .i8 x] w λe w'=>e=.returned (.tuple #[])/\(∃c',BB w' b Y r (room-1) least (leI 1 x++bytes) c')/\Fr (λk=>k=b\/k=Y) w w':=by
 have hlim:=h.lim;have hfit:=h.fit;have hxl:(leI 1 x).length=1:=by first|rfl|simp
 obtain⟨room',hroom⟩:∃room',room'=room-1:=⟨_,rfl⟩;have hd:(((room:Nat):Int)-1)%4294967296=((room':Nat):Int):=by omega
 have hput:=λnq=>h.put (leI 1 x) (by rw[hxl];exact hr) nq;rw[hxl,<-hroom] at hput;have hsl:=λw'=>run_slice_from (P:=Tryz.prog) Tryz.underlying81 sizeU8b Y 0 (room+bytes.length) c.size .u32 room' room' rfl (by omega) w';rw[sOff_lt (by omega),Nat.zero_add] at hsl;have hy1:=λnq=>h.y1 (.int .u32 (room':Nat)) nq;have HC:=Hd (λnq=>WriteInt8_ok Y room' (room+bytes.length-room') (c.size-room') x c 5 _ (hy1 nq) (by omega) (by omega));have HP:=Hd hput;have hc1:=heap_setCell_same h.hb 5 (.int .u32 (room':Nat));have c5:w.cell? ⟨b,5,none⟩=some (.int .u32 room):=by rw[cell_of h.hb];rfl
 have f5:=frozen_of h.hb 5;have d0:(w.setCell ⟨b,5,none⟩ (.int .u32 (room':Nat))).cell? ⟨b,0,none⟩=some (.slice (some ⟨Y,0,none⟩) (room+bytes.length) c.size):=by rw[cell_of hc1];rfl
 have d5:(w.setCell ⟨b,5,none⟩ (.int .u32 (room':Nat))).cell? ⟨b,5,none⟩=some (.int .u32 (room':Nat)):=by rw[cell_of hc1];rfl
 have HR:=Hd hroom;clear h hput hy1 hc1 hlim hfit hxl hr hroom;go_enter Tryz.func145,Tryz.ntmps145;go_wp2_with fail;refine lst _ ?_;simp only[List.dropLast];repeat (go_big_quiet_step (fail))
 refine wpQuiet_nil ?_;intro nq;refine wpOp_step rfl (λK hK=>?_);go_simp;refine (HC.out nq).mono ?_;rintro e w' ⟨rfl,rfl⟩;refine hK _ _ ?_;go_wp2_with fail;go_end0
 exact⟨rfl,⟨_,by rw[<-HR.out];exact (HP.out nq).1⟩,(HP.out nq).2⟩
theorem PlaceUint16_ok(b Y:Nat)(r:BRest)(room least:Nat)(bytes:List UInt8)(c:Array Value)(x:Int)(w:World)(h:BB w b Y r room least bytes c)(hr:2<=room):
  Calls Tryz.prog 146 #[.pointer (some ⟨b,0,none⟩),.int .u16 x] w λe w'=>e=.returned (.tuple #[])/\(∃c',BB w' b Y r (room-2) least (leI 2 x++bytes) c')/\Fr (λk=>k=b\/k=Y) w w':=by
 have hlim:=h.lim;have hfit:=h.fit;have hxl:(leI 2 x).length=2:=by first|rfl|simp
 obtain⟨room',hroom⟩:∃room',room'=room-2:=⟨_,rfl⟩;have hd:(((room:Nat):Int)-2)%4294967296=((room':Nat):Int):=by omega
 have hput:=λnq=>h.put (leI 2 x) (by rw[hxl];exact hr) nq;rw[hxl,<-hroom] at hput;have hsl:=λw'=>run_slice_from (P:=Tryz.prog) Tryz.underlying81 sizeU8b Y 0 (room+bytes.length) c.size .u32 room' room' rfl (by omega) w';rw[sOff_lt (by omega),Nat.zero_add] at hsl;have hy1:=λnq=>h.y1 (.int .u32 (room':Nat)) nq;have HC:=Hd (λnq=>WriteUint16_ok Y room' (room+bytes.length-room') (c.size-room') x c 5 _ (hy1 nq) (by omega) (by omega));have HP:=Hd hput;have hc1:=heap_setCell_same h.hb 5 (.int .u32 (room':Nat));have c5:w.cell? ⟨b,5,none⟩=some (.int .u32 room):=by rw[cell_of h.hb];rfl
 have f5:=frozen_of h.hb 5;have d0:(w.setCell ⟨b,5,none⟩ (.int .u32 (room':Nat))).cell? ⟨b,0,none⟩=some (.slice (some ⟨Y,0,none⟩) (room+bytes.length) c.size):=by rw[cell_of hc1];rfl
 have d5:(w.setCell ⟨b,5,none⟩ (.int .u32 (room':Nat))).cell? ⟨b,5,none⟩=some (.int .u32 (room':Nat)):=by rw[cell_of hc1];rfl
 have HR:=Hd hroom;clear h hput hy1 hc1 hlim hfit hxl hr hroom;go_enter Tryz.func146,Tryz.ntmps146;go_wp2_with fail;refine lst _ ?_;simp only[List.dropLast];repeat (go_big_quiet_step (fail))
 refine wpQuiet_nil ?_;intro nq;refine wpOp_step rfl (λK hK=>?_);go_simp;refine (HC.out nq).mono ?_;rintro e w' ⟨rfl,rfl⟩;refine hK _ _ ?_;go_wp2_with fail;go_end0
 exact⟨rfl,⟨_,by rw[<-HR.out];exact (HP.out nq).1⟩,(HP.out nq).2⟩
theorem PlaceInt16_ok(b Y:Nat)(r:BRest)(room least:Nat)(bytes:List UInt8)(c:Array Value)(x:Int)(w:World)(h:BB w b Y r room least bytes c)(hr:2<=room):
  Calls Tryz.prog 147 #[.pointer (some ⟨b,0,none⟩),.int .i16 x] w λe w'=>e=.returned (.tuple #[])/\(∃c',BB w' b Y r (room-2) least (leI 2 x++bytes) c')/\Fr (λk=>k=b\/k=Y) w w':=by
 have hlim:=h.lim;have hfit:=h.fit;have hxl:(leI 2 x).length=2:=by first|rfl|simp
 obtain⟨room',hroom⟩:∃room',room'=room-2:=⟨_,rfl⟩;have hd:(((room:Nat):Int)-2)%4294967296=((room':Nat):Int):=by omega
 have hput:=λnq=>h.put (leI 2 x) (by rw[hxl];exact hr) nq;rw[hxl,<-hroom] at hput;have hsl:=λw'=>run_slice_from (P:=Tryz.prog) Tryz.underlying81 sizeU8b Y 0 (room+bytes.length) c.size .u32 room' room' rfl (by omega) w';rw[sOff_lt (by omega),Nat.zero_add] at hsl;have hy1:=λnq=>h.y1 (.int .u32 (room':Nat)) nq;have HC:=Hd (λnq=>WriteInt16_ok Y room' (room+bytes.length-room') (c.size-room') x c 5 _ (hy1 nq) (by omega) (by omega));have HP:=Hd hput;have hc1:=heap_setCell_same h.hb 5 (.int .u32 (room':Nat));have c5:w.cell? ⟨b,5,none⟩=some (.int .u32 room):=by rw[cell_of h.hb];rfl
 have f5:=frozen_of h.hb 5;have d0:(w.setCell ⟨b,5,none⟩ (.int .u32 (room':Nat))).cell? ⟨b,0,none⟩=some (.slice (some ⟨Y,0,none⟩) (room+bytes.length) c.size):=by rw[cell_of hc1];rfl
 have d5:(w.setCell ⟨b,5,none⟩ (.int .u32 (room':Nat))).cell? ⟨b,5,none⟩=some (.int .u32 (room':Nat)):=by rw[cell_of hc1];rfl
 have HR:=Hd hroom;clear h hput hy1 hc1 hlim hfit hxl hr hroom;go_enter Tryz.func147,Tryz.ntmps147;go_wp2_with fail;refine lst _ ?_;simp only[List.dropLast];repeat (go_big_quiet_step (fail))
 refine wpQuiet_nil ?_;intro nq;refine wpOp_step rfl (λK hK=>?_);go_simp;refine (HC.out nq).mono ?_;rintro e w' ⟨rfl,rfl⟩;refine hK _ _ ?_;go_wp2_with fail;go_end0
 exact⟨rfl,⟨_,by rw[<-HR.out];exact (HP.out nq).1⟩,(HP.out nq).2⟩
theorem PlaceVOffsetT_ok(b Y:Nat)(r:BRest)(room least:Nat)(bytes:List UInt8)(c:Array Value)(x:Int)(w:World)(h:BB w b Y r room least bytes c)(hr:2<=room):
  Calls Tryz.prog 141 #[.pointer (some ⟨b,0,none⟩),.int .u16 x] w λe w'=>e=.returned (.tuple #[])/\(∃c',BB w' b Y r (room-2) least (leI 2 x++bytes) c')/\Fr (λk=>k=b\/k=Y) w w':=by
 have hlim:=h.lim;have hfit:=h.fit;have hxl:(leI 2 x).length=2:=by first|rfl|simp
 obtain⟨room',hroom⟩:∃room',room'=room-2:=⟨_,rfl⟩;have hd:(((room:Nat):Int)-2)%4294967296=((room':Nat):Int):=by omega
 have hput:=λnq=>h.put (leI 2 x) (by rw[hxl];exact hr) nq;rw[hxl,<-hroom] at hput;have hsl:=λw'=>run_slice_from (P:=Tryz.prog) Tryz.underlying81 sizeU8b Y 0 (room+bytes.length) c.size .u32 room' room' rfl (by omega) w';rw[sOff_lt (by omega),Nat.zero_add] at hsl;have hy1:=λnq=>h.y1 (.int .u32 (room':Nat)) nq;have HC:=Hd (λnq=>WriteVOffsetT_ok Y room' (room+bytes.length-room') (c.size-room') x c 5 _ (hy1 nq) (by omega) (by omega));have HP:=Hd hput;have hc1:=heap_setCell_same h.hb 5 (.int .u32 (room':Nat));have c5:w.cell? ⟨b,5,none⟩=some (.int .u32 room):=by rw[cell_of h.hb];rfl
 have f5:=frozen_of h.hb 5;have d0:(w.setCell ⟨b,5,none⟩ (.int .u32 (room':Nat))).cell? ⟨b,0,none⟩=some (.slice (some ⟨Y,0,none⟩) (room+bytes.length) c.size):=by rw[cell_of hc1];rfl
 have d5:(w.setCell ⟨b,5,none⟩ (.int .u32 (room':Nat))).cell? ⟨b,5,none⟩=some (.int .u32 (room':Nat)):=by rw[cell_of hc1];rfl
 have HR:=Hd hroom;clear h hput hy1 hc1 hlim hfit hxl hr hroom;go_enter Tryz.func141,Tryz.ntmps141;go_wp2_with fail;refine lst _ ?_;simp only[List.dropLast];repeat (go_big_quiet_step (fail))
 refine wpQuiet_nil ?_;intro nq;refine wpOp_step rfl (λK hK=>?_);go_simp;refine (HC.out nq).mono ?_;rintro e w' ⟨rfl,rfl⟩;refine hK _ _ ?_;go_wp2_with fail;go_end0
 exact⟨rfl,⟨_,by rw[<-HR.out];exact (HP.out nq).1⟩,(HP.out nq).2⟩
theorem PlaceUint32_ok(b Y:Nat)(r:BRest)(room least:Nat)(bytes:List UInt8)(c:Array Value)(x:Int)(w:World)(h:BB w b Y r room least bytes c)(hr:4<=room):
  Calls Tryz.prog 148 #[.pointer (some ⟨b,0,none⟩),.int .u32 x] w λe w'=>e=.returned (.tuple #[])/\(∃c',BB w' b Y r (room-4) least (leI 4 x++bytes) c')/\Fr (λk=>k=b\/k=Y) w w':=by
 have hlim:=h.lim;have hfit:=h.fit;have hxl:(leI 4 x).length=4:=by first|rfl|simp
 obtain⟨room',hroom⟩:∃room',room'=room-4:=⟨_,rfl⟩;have hd:(((room:Nat):Int)-4)%4294967296=((room':Nat):Int):=by omega
 have hput:=λnq=>h.put (leI 4 x) (by rw[hxl];exact hr) nq;rw[hxl,<-hroom] at hput;have hsl:=λw'=>run_slice_from (P:=Tryz.prog) Tryz.underlying81 sizeU8b Y 0 (room+bytes.length) c.size .u32 room' room' rfl (by omega) w';rw[sOff_lt (by omega),Nat.zero_add] at hsl;have hy1:=λnq=>h.y1 (.int .u32 (room':Nat)) nq;have HC:=Hd (λnq=>WriteUint32_ok Y room' (room+bytes.length-room') (c.size-room') x c 5 _ (hy1 nq) (by omega) (by omega));have HP:=Hd hput;have hc1:=heap_setCell_same h.hb 5 (.int .u32 (room':Nat));have c5:w.cell? ⟨b,5,none⟩=some (.int .u32 room):=by rw[cell_of h.hb];rfl
 have f5:=frozen_of h.hb 5;have d0:(w.setCell ⟨b,5,none⟩ (.int .u32 (room':Nat))).cell? ⟨b,0,none⟩=some (.slice (some ⟨Y,0,none⟩) (room+bytes.length) c.size):=by rw[cell_of hc1];rfl
 have d5:(w.setCell ⟨b,5,none⟩ (.int .u32 (room':Nat))).cell? ⟨b,5,none⟩=some (.int .u32 (room':Nat)):=by rw[cell_of hc1];rfl
 have HR:=Hd hroom;clear h hput hy1 hc1 hlim hfit hxl hr hroom;go_enter Tryz.func148,Tryz.ntmps148;go_wp2_with fail;refine lst _ ?_;simp only[List.dropLast];repeat (go_big_quiet_step (fail))
 refine wpQuiet_nil ?_;intro nq;refine wpOp_step rfl (λK hK=>?_);go_simp;refine (HC.out nq).mono ?_;rintro e w' ⟨rfl,rfl⟩;refine hK _ _ ?_;go_wp2_with fail;go_end0
 exact⟨rfl,⟨_,by rw[<-HR.out];exact (HP.out nq).1⟩,(HP.out nq).2⟩
theorem PlaceInt32_ok(b Y:Nat)(r:BRest)(room least:Nat)(bytes:List UInt8)(c:Array Value)(x:Int)(w:World)(h:BB w b Y r room least bytes c)(hr:4<=room):
  Calls Tryz.prog 149 #[.pointer (some ⟨b,0,none⟩),.int .i32 x] w λe w'=>e=.returned (.tuple #[])/\(∃c',BB w' b Y r (room-4) least (leI 4 x++bytes) c')/\Fr (λk=>k=b\/k=Y) w w':=by
 have hlim:=h.lim;have hfit:=h.fit;have hxl:(leI 4 x).length=4:=by first|rfl|simp
 obtain⟨room',hroom⟩:∃room',room'=room-4:=⟨_,rfl⟩;have hd:(((room:Nat):Int)-4)%4294967296=((room':Nat):Int):=by omega
 have hput:=λnq=>h.put (leI 4 x) (by rw[hxl];exact hr) nq;rw[hxl,<-hroom] at hput;have hsl:=λw'=>run_slice_from (P:=Tryz.prog) Tryz.underlying81 sizeU8b Y 0 (room+bytes.length) c.size .u32 room' room' rfl (by omega) w';rw[sOff_lt (by omega),Nat.zero_add] at hsl;have hy1:=λnq=>h.y1 (.int .u32 (room':Nat)) nq;have HC:=Hd (λnq=>WriteInt32_ok Y room' (room+bytes.length-room') (c.size-room') x c 5 _ (hy1 nq) (by omega) (by omega));have HP:=Hd hput;have hc1:=heap_setCell_same h.hb 5 (.int .u32 (room':Nat));have c5:w.cell? ⟨b,5,none⟩=some (.int .u32 room):=by rw[cell_of h.hb];rfl
 have f5:=frozen_of h.hb 5;have d0:(w.setCell ⟨b,5,none⟩ (.int .u32 (room':Nat))).cell? ⟨b,0,none⟩=some (.slice (some ⟨Y,0,none⟩) (room+bytes.length) c.size):=by rw[cell_of hc1];rfl
 have d5:(w.setCell ⟨b,5,none⟩ (.int .u32 (room':Nat))).cell? ⟨b,5,none⟩=some (.int .u32 (room':Nat)):=by rw[cell_of hc1];rfl
 have HR:=Hd hroom;clear h hput hy1 hc1 hlim hfit hxl hr hroom;go_enter Tryz.func149,Tryz.ntmps149;go_wp2_with fail;refine lst _ ?_;simp only[List.dropLast];repeat (go_big_quiet_step (fail))
 refine wpQuiet_nil ?_;intro nq;refine wpOp_step rfl (λK hK=>?_);go_simp;refine (HC.out nq).mono ?_;rintro e w' ⟨rfl,rfl⟩;refine hK _ _ ?_;go_wp2_with fail;go_end0
 exact⟨rfl,⟨_,by rw[<-HR.out];exact (HP.out nq).1⟩,(HP.out nq).2⟩
theorem PlaceUOffsetT_ok(b Y:Nat)(r:BRest)(room least:Nat)(bytes:List UInt8)(c:Array Value)(x:Int)(w:World)(h:BB w b Y r room least bytes c)(hr:4<=room):
  Calls Tryz.prog 139 #[.pointer (some ⟨b,0,none⟩),.int .u32 x] w λe w'=>e=.returned (.tuple #[])/\(∃c',BB w' b Y r (room-4) least (leI 4 x++bytes) c')/\Fr (λk=>k=b\/k=Y) w w':=by
 have hlim:=h.lim;have hfit:=h.fit;have hxl:(leI 4 x).length=4:=by first|rfl|simp
 obtain⟨room',hroom⟩:∃room',room'=room-4:=⟨_,rfl⟩;have hd:(((room:Nat):Int)-4)%4294967296=((room':Nat):Int):=by omega
 have hput:=λnq=>h.put (leI 4 x) (by rw[hxl];exact hr) nq;rw[hxl,<-hroom] at hput;have hsl:=λw'=>run_slice_from (P:=Tryz.prog) Tryz.underlying81 sizeU8b Y 0 (room+bytes.length) c.size .u32 room' room' rfl (by omega) w';rw[sOff_lt (by omega),Nat.zero_add] at hsl;have hy1:=λnq=>h.y1 (.int .u32 (room':Nat)) nq;have HC:=Hd (λnq=>WriteUOffsetT_ok Y room' (room+bytes.length-room') (c.size-room') x c 5 _ (hy1 nq) (by omega) (by omega));have HP:=Hd hput;have hc1:=heap_setCell_same h.hb 5 (.int .u32 (room':Nat));have c5:w.cell? ⟨b,5,none⟩=some (.int .u32 room):=by rw[cell_of h.hb];rfl
 have f5:=frozen_of h.hb 5;have d0:(w.setCell ⟨b,5,none⟩ (.int .u32 (room':Nat))).cell? ⟨b,0,none⟩=some (.slice (some ⟨Y,0,none⟩) (room+bytes.length) c.size):=by rw[cell_of hc1];rfl
 have d5:(w.setCell ⟨b,5,none⟩ (.int .u32 (room':Nat))).cell? ⟨b,5,none⟩=some (.int .u32 (room':Nat)):=by rw[cell_of hc1];rfl
 have HR:=Hd hroom;clear h hput hy1 hc1 hlim hfit hxl hr hroom;go_enter Tryz.func139,Tryz.ntmps139;go_wp2_with fail;refine lst _ ?_;simp only[List.dropLast];repeat (go_big_quiet_step (fail))
 refine wpQuiet_nil ?_;intro nq;refine wpOp_step rfl (λK hK=>?_);go_simp;refine (HC.out nq).mono ?_;rintro e w' ⟨rfl,rfl⟩;refine hK _ _ ?_;go_wp2_with fail;go_end0
 exact⟨rfl,⟨_,by rw[<-HR.out];exact (HP.out nq).1⟩,(HP.out nq).2⟩
theorem PlaceSOffsetT_ok(b Y:Nat)(r:BRest)(room least:Nat)(bytes:List UInt8)(c:Array Value)(x:Int)(w:World)(h:BB w b Y r room least bytes c)(hr:4<=room):
  Calls Tryz.prog 140 #[.pointer (some ⟨b,0,none⟩),.int .i32 x] w λe w'=>e=.returned (.tuple #[])/\(∃c',BB w' b Y r (room-4) least (leI 4 x++bytes) c')/\Fr (λk=>k=b\/k=Y) w w':=by
 have hlim:=h.lim;have hfit:=h.fit;have hxl:(leI 4 x).length=4:=by first|rfl|simp
 obtain⟨room',hroom⟩:∃room',room'=room-4:=⟨_,rfl⟩;have hd:(((room:Nat):Int)-4)%4294967296=((room':Nat):Int):=by omega
 have hput:=λnq=>h.put (leI 4 x) (by rw[hxl];exact hr) nq;rw[hxl,<-hroom] at hput;have hsl:=λw'=>run_slice_from (P:=Tryz.prog) Tryz.underlying81 sizeU8b Y 0 (room+bytes.length) c.size .u32 room' room' rfl (by omega) w';rw[sOff_lt (by omega),Nat.zero_add] at hsl;have hy1:=λnq=>h.y1 (.int .u32 (room':Nat)) nq;have HC:=Hd (λnq=>WriteSOffsetT_ok Y room' (room+bytes.length-room') (c.size-room') x c 5 _ (hy1 nq) (by omega) (by omega));have HP:=Hd hput;have hc1:=heap_setCell_same h.hb 5 (.int .u32 (room':Nat));have c5:w.cell? ⟨b,5,none⟩=some (.int .u32 room):=by rw[cell_of h.hb];rfl
 have f5:=frozen_of h.hb 5;have d0:(w.setCell ⟨b,5,none⟩ (.int .u32 (room':Nat))).cell? ⟨b,0,none⟩=some (.slice (some ⟨Y,0,none⟩) (room+bytes.length) c.size):=by rw[cell_of hc1];rfl
 have d5:(w.setCell ⟨b,5,none⟩ (.int .u32 (room':Nat))).cell? ⟨b,5,none⟩=some (.int .u32 (room':Nat)):=by rw[cell_of hc1];rfl
 have HR:=Hd hroom;clear h hput hy1 hc1 hlim hfit hxl hr hroom;go_enter Tryz.func140,Tryz.ntmps140;go_wp2_with fail;refine lst _ ?_;simp only[List.dropLast];repeat (go_big_quiet_step (fail))
 refine wpQuiet_nil ?_;intro nq;refine wpOp_step rfl (λK hK=>?_);go_simp;refine (HC.out nq).mono ?_;rintro e w' ⟨rfl,rfl⟩;refine hK _ _ ?_;go_wp2_with fail;go_end0
 exact⟨rfl,⟨_,by rw[<-HR.out];exact (HP.out nq).1⟩,(HP.out nq).2⟩
theorem PlaceUint64_ok(b Y:Nat)(r:BRest)(room least:Nat)(bytes:List UInt8)(c:Array Value)(x:Int)(w:World)(h:BB w b Y r room least bytes c)(hr:8<=room):
  Calls Tryz.prog 150 #[.pointer (some ⟨b,0,none⟩),.int .u64 x] w λe w'=>e=.returned (.tuple #[])/\(∃c',BB w' b Y r (room-8) least (leI 8 x++bytes) c')/\Fr (λk=>k=b\/k=Y) w w':=by
 have hlim:=h.lim;have hfit:=h.fit;have hxl:(leI 8 x).length=8:=by first|rfl|simp
 obtain⟨room',hroom⟩:∃room',room'=room-8:=⟨_,rfl⟩;have hd:(((room:Nat):Int)-8)%4294967296=((room':Nat):Int):=by omega
 have hput:=λnq=>h.put (leI 8 x) (by rw[hxl];exact hr) nq;rw[hxl,<-hroom] at hput;have hsl:=λw'=>run_slice_from (P:=Tryz.prog) Tryz.underlying81 sizeU8b Y 0 (room+bytes.length) c.size .u32 room' room' rfl (by omega) w';rw[sOff_lt (by omega),Nat.zero_add] at hsl;have hy1:=λnq=>h.y1 (.int .u32 (room':Nat)) nq;have HC:=Hd (λnq=>WriteUint64_ok Y room' (room+bytes.length-room') (c.size-room') x c 5 _ (hy1 nq) (by omega) (by omega));have HP:=Hd hput;have hc1:=heap_setCell_same h.hb 5 (.int .u32 (room':Nat));have c5:w.cell? ⟨b,5,none⟩=some (.int .u32 room):=by rw[cell_of h.hb];rfl
 have f5:=frozen_of h.hb 5;have d0:(w.setCell ⟨b,5,none⟩ (.int .u32 (room':Nat))).cell? ⟨b,0,none⟩=some (.slice (some ⟨Y,0,none⟩) (room+bytes.length) c.size):=by rw[cell_of hc1];rfl
 have d5:(w.setCell ⟨b,5,none⟩ (.int .u32 (room':Nat))).cell? ⟨b,5,none⟩=some (.int .u32 (room':Nat)):=by rw[cell_of hc1];rfl
 have HR:=Hd hroom;clear h hput hy1 hc1 hlim hfit hxl hr hroom;go_enter Tryz.func150,Tryz.ntmps150;go_wp2_with fail;refine lst _ ?_;simp only[List.dropLast];repeat (go_big_quiet_step (fail))
 refine wpQuiet_nil ?_;intro nq;refine wpOp_step rfl (λK hK=>?_);go_simp;refine (HC.out nq).mono ?_;rintro e w' ⟨rfl,rfl⟩;refine hK _ _ ?_;go_wp2_with fail;go_end0
 exact⟨rfl,⟨_,by rw[<-HR.out];exact (HP.out nq).1⟩,(HP.out nq).2⟩
theorem PlaceInt64_ok(b Y:Nat)(r:BRest)(room least:Nat)(bytes:List UInt8)(c:Array Value)(x:Int)(w:World)(h:BB w b Y r room least bytes c)(hr:8<=room):
  Calls Tryz.prog 151 #[.pointer (some ⟨b,0,none⟩),.int .i64 x] w λe w'=>e=.returned (.tuple #[])/\(∃c',BB w' b Y r (room-8) least (leI 8 x++bytes) c')/\Fr (λk=>k=b\/k=Y) w w':=by
 have hlim:=h.lim;have hfit:=h.fit;have hxl:(leI 8 x).length=8:=by first|rfl|simp
 obtain⟨room',hroom⟩:∃room',room'=room-8:=⟨_,rfl⟩;have hd:(((room:Nat):Int)-8)%4294967296=((room':Nat):Int):=by omega
 have hput:=λnq=>h.put (leI 8 x) (by rw[hxl];exact hr) nq;rw[hxl,<-hroom] at hput;have hsl:=λw'=>run_slice_from (P:=Tryz.prog) Tryz.underlying81 sizeU8b Y 0 (room+bytes.length) c.size .u32 room' room' rfl (by omega) w';rw[sOff_lt (by omega),Nat.zero_add] at hsl;have hy1:=λnq=>h.y1 (.int .u32 (room':Nat)) nq;have HC:=Hd (λnq=>WriteInt64_ok Y room' (room+bytes.length-room') (c.size-room') x c 5 _ (hy1 nq) (by omega) (by omega));have HP:=Hd hput;have hc1:=heap_setCell_same h.hb 5 (.int .u32 (room':Nat));have c5:w.cell? ⟨b,5,none⟩=some (.int .u32 room):=by rw[cell_of h.hb];rfl
 have f5:=frozen_of h.hb 5;have d0:(w.setCell ⟨b,5,none⟩ (.int .u32 (room':Nat))).cell? ⟨b,0,none⟩=some (.slice (some ⟨Y,0,none⟩) (room+bytes.length) c.size):=by rw[cell_of hc1];rfl
 have d5:(w.setCell ⟨b,5,none⟩ (.int .u32 (room':Nat))).cell? ⟨b,5,none⟩=some (.int .u32 (room':Nat)):=by rw[cell_of hc1];rfl
 have HR:=Hd hroom;clear h hput hy1 hc1 hlim hfit hxl hr hroom;go_enter Tryz.func151,Tryz.ntmps151;go_wp2_with fail;refine lst _ ?_;simp only[List.dropLast];repeat (go_big_quiet_step (fail))
 refine wpQuiet_nil ?_;intro nq;refine wpOp_step rfl (λK hK=>?_);go_simp;refine (HC.out nq).mono ?_;rintro e w' ⟨rfl,rfl⟩;refine hK _ _ ?_;go_wp2_with fail;go_end0
 exact⟨rfl,⟨_,by rw[<-HR.out];exact (HP.out nq).1⟩,(HP.out nq).2⟩
theorem PlaceFloat32_ok(b Y:Nat)(r:BRest)(room least:Nat)(bytes:List UInt8)(c:Array Value)(x:Nat)(w:World)(h:BB w b Y r room least bytes c)(hr:4<=room):
  Calls Tryz.prog 152 #[.pointer (some ⟨b,0,none⟩),.float .f32 x] w λe w'=>e=.returned (.tuple #[])/\(∃c',BB w' b Y r (room-4) least (leI 4 x++bytes) c')/\Fr (λk=>k=b\/k=Y) w w':=by
 have hlim:=h.lim;have hfit:=h.fit;have hxl:(leI 4 x).length=4:=by first|rfl|simp
 obtain⟨room',hroom⟩:∃room',room'=room-4:=⟨_,rfl⟩;have hd:(((room:Nat):Int)-4)%4294967296=((room':Nat):Int):=by omega
 have hput:=λnq=>h.put (leI 4 x) (by rw[hxl];exact hr) nq;rw[hxl,<-hroom] at hput;have hsl:=λw'=>run_slice_from (P:=Tryz.prog) Tryz.underlying81 sizeU8b Y 0 (room+bytes.length) c.size .u32 room' room' rfl (by omega) w';rw[sOff_lt (by omega),Nat.zero_add] at hsl;have hy1:=λnq=>h.y1 (.int .u32 (room':Nat)) nq;have HC:=Hd (λnq=>WriteFloat32_ok Y room' (room+bytes.length-room') (c.size-room') x c 5 _ (hy1 nq) (by omega) (by omega));have HP:=Hd hput;have hc1:=heap_setCell_same h.hb 5 (.int .u32 (room':Nat));have c5:w.cell? ⟨b,5,none⟩=some (.int .u32 room):=by rw[cell_of h.hb];rfl
 have f5:=frozen_of h.hb 5;have d0:(w.setCell ⟨b,5,none⟩ (.int .u32 (room':Nat))).cell? ⟨b,0,none⟩=some (.slice (some ⟨Y,0,none⟩) (room+bytes.length) c.size):=by rw[cell_of hc1];rfl
 have d5:(w.setCell ⟨b,5,none⟩ (.int .u32 (room':Nat))).cell? ⟨b,5,none⟩=some (.int .u32 (room':Nat)):=by rw[cell_of hc1];rfl
 have HR:=Hd hroom;clear h hput hy1 hc1 hlim hfit hxl hr hroom;go_enter Tryz.func152,Tryz.ntmps152;go_wp2_with fail;refine lst _ ?_;simp only[List.dropLast];repeat (go_big_quiet_step (fail))
 refine wpQuiet_nil ?_;intro nq;refine wpOp_step rfl (λK hK=>?_);go_simp;refine (HC.out nq).mono ?_;rintro e w' ⟨rfl,rfl⟩;refine hK _ _ ?_;go_wp2_with fail;go_end0
 exact⟨rfl,⟨_,by rw[<-HR.out];exact (HP.out nq).1⟩,(HP.out nq).2⟩
theorem PlaceFloat64_ok(b Y:Nat)(r:BRest)(room least:Nat)(bytes:List UInt8)(c:Array Value)(x:Nat)(w:World)(h:BB w b Y r room least bytes c)(hr:8<=room):
  Calls Tryz.prog 153 #[.pointer (some ⟨b,0,none⟩),.float .f64 x] w λe w'=>e=.returned (.tuple #[])/\(∃c',BB w' b Y r (room-8) least (leI 8 x++bytes) c')/\Fr (λk=>k=b\/k=Y) w w':=by
 have hlim:=h.lim;have hfit:=h.fit;have hxl:(leI 8 x).length=8:=by first|rfl|simp
 obtain⟨room',hroom⟩:∃room',room'=room-8:=⟨_,rfl⟩;have hd:(((room:Nat):Int)-8)%4294967296=((room':Nat):Int):=by omega
 have hput:=λnq=>h.put (leI 8 x) (by rw[hxl];exact hr) nq;rw[hxl,<-hroom] at hput;have hsl:=λw'=>run_slice_from (P:=Tryz.prog) Tryz.underlying81 sizeU8b Y 0 (room+bytes.length) c.size .u32 room' room' rfl (by omega) w';rw[sOff_lt (by omega),Nat.zero_add] at hsl;have hy1:=λnq=>h.y1 (.int .u32 (room':Nat)) nq;have HC:=Hd (λnq=>WriteFloat64_ok Y room' (room+bytes.length-room') (c.size-room') x c 5 _ (hy1 nq) (by omega) (by omega));have HP:=Hd hput;have hc1:=heap_setCell_same h.hb 5 (.int .u32 (room':Nat));have c5:w.cell? ⟨b,5,none⟩=some (.int .u32 room):=by rw[cell_of h.hb];rfl
 have f5:=frozen_of h.hb 5;have d0:(w.setCell ⟨b,5,none⟩ (.int .u32 (room':Nat))).cell? ⟨b,0,none⟩=some (.slice (some ⟨Y,0,none⟩) (room+bytes.length) c.size):=by rw[cell_of hc1];rfl
 have d5:(w.setCell ⟨b,5,none⟩ (.int .u32 (room':Nat))).cell? ⟨b,5,none⟩=some (.int .u32 (room':Nat)):=by rw[cell_of hc1];rfl
 have HR:=Hd hroom;clear h hput hy1 hc1 hlim hfit hxl hr hroom;go_enter Tryz.func153,Tryz.ntmps153;go_wp2_with fail;refine lst _ ?_;simp only[List.dropLast];repeat (go_big_quiet_step (fail))
 refine wpQuiet_nil ?_;intro nq;refine wpOp_step rfl (λK hK=>?_);go_simp;refine (HC.out nq).mono ?_;rintro e w' ⟨rfl,rfl⟩;refine hK _ _ ?_;go_wp2_with fail;go_end0
 exact⟨rfl,⟨_,by rw[<-HR.out];exact (HP.out nq).1⟩,(HP.out nq).2⟩
end Go.Proofs.YtcfblkkpclfmaaaGreat
