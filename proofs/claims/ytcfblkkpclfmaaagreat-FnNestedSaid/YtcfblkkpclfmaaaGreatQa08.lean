/- Part 8 of the proof of FnRead (Prepend, BRep, NewB, Ops1, Ops2). No condition is laid on the statement. -/
import Derived.Test.YtcfblkkpclfmaaaGreatQa07
import Derived.Maps.Own
import Derived.WalkSmall
import Derived.Deep.RegionHeld
set_option linter.unusedVariables false
set_option linter.unusedSimpArgs false
set_option maxRecDepth 100000
set_option maxHeartbeats 16000000
namespace Go.Proofs.YtcfblkkpclfmaaaGreat
open Go.RowKit
structure BM where
 room:Nat
 least:Nat
 bytes:List UInt8
def BM.pad(m:BM)(size add:Nat):Nat:=padB (m.bytes.length+add) size
def BM.prep(m:BM)(size add:Nat):BM:=⟨prepRoom m.room m.bytes.length (m.pad size add+size+add)-m.pad size add,max m.least size,List.replicate (m.pad size add) 0++m.bytes⟩
def BM.put(m:BM)(xs:List UInt8):BM:=⟨m.room-xs.length,m.least,xs++m.bytes⟩
abbrev BBm(w:World)(b Y:Nat)(r:BRest)(m:BM)(c:Array Value):Prop:=BB w b Y r m.room m.least m.bytes c
abbrev BBy(w w':World)(b Y:Nat)(r:BRest)(m:BM):Prop:=BBx w w' b Y r m.room m.least m.bytes
theorem newL_gt(L:Nat):L<newL L:=by unfold newL;split<;>omega
theorem roomL_gt(used need:Nat):∀(f room:Nat),need+1<=f+room->need<roomL f room used need
 | 0,room,h=>by show need<room;omega
 | f+1,room,h=>by
  show need<(if room<=need then _ else room);split
  ·have:=newL_gt (room+used)
   exact roomL_gt used need f _ (by omega)
  ·omega
theorem prepRoom_gt(room used need:Nat):need<prepRoom room used need:=roomL_gt used need _ room (by omega)
theorem BM.prep_room(m:BM)(size add:Nat):size+add<(m.prep size add).room:=by
 have:=prepRoom_gt m.room m.bytes.length (m.pad size add+size+add)
 show size+add<prepRoom _ _ _-m.pad size add;omega
def algn (s:Nat):Prop:=s=1\/s=2\/s=4\/s=8\/s=16
theorem Prep_m(b Y:Nat)(r:BRest)(m:BM)(size add:Nat)(c:Array Value)(w:World)(h:BBm w b Y r m c)(hs:algn size)(hadd:m.bytes.length+add<=1900000):
  Calls Tryz.prog 85 #[.pointer (some ⟨b,0,none⟩),.int .i64 size,.int .i64 add] w λe w'=>e=.returned (.tuple #[])/\BBy w w' b Y r (m.prep size add) :=
 Prep_calls b Y r m.room m.least size add m.bytes c w h hs hadd
theorem PrependBool_calls(b Y:Nat)(r:BRest)(m:BM)(c:Array Value)(x:Bool)(w:World)(h:BBm w b Y r m c)(hu:m.bytes.length<=1900000):
  Calls Tryz.prog 114 #[.pointer (some ⟨b,0,none⟩),.bool x] w λe w'=>e=.returned (.tuple #[])/\BBy w w' b Y r ((m.prep 1 0).put (leI 1 (b01 x))):=by
 have HP:=Hd (Prep_m b Y r m 1 0 c w h (by unfold algn;omega) hu);clear h hu;have hrm:=m.prep_room 1 0;have hxl:(leI 1 (b01 x)).length=1:=by first|rfl|simp
 have HX:=Hd hxl;have HR:=Hd hrm;clear hxl hrm;go_enter Tryz.func114,Tryz.ntmps114;go_wp2_with fail;refine HP.out.mono ?_;rintro e w1 ⟨rfl,Y1,c1,hY,hb,hf⟩;have HC:=Hd (PlaceBool_ok b Y1 r (m.prep 1 0).room (m.prep 1 0).least (m.prep 1 0).bytes c1 x w1 hb (by have:=HR.out;omega));have HY:=Hd hY;have HF:=Hd hf;clear hY hb hf;go_wp2_with fail;refine HC.out.mono ?_;rintro e w2 ⟨rfl,hb2,hf2⟩;have HE:=Hd (BBx.trans HY.out HF.out (BBx.here hb2 hf2));clear hb2 hf2;go_wp2_with fail;go_end0
 refine⟨rfl,?_⟩;show BBx _ _ _ _ _ ((m.prep 1 0).room-(leI 1 (b01 x)).length) _ _;rw[HX.out];exact HE.out
theorem PrependUint8_calls(b Y:Nat)(r:BRest)(m:BM)(c:Array Value)(x:Int)(h0:0<=x)(h1:x<256)(w:World)(h:BBm w b Y r m c)(hu:m.bytes.length<=1900000):
  Calls Tryz.prog 116 #[.pointer (some ⟨b,0,none⟩),.int .u8 x] w λe w'=>e=.returned (.tuple #[])/\BBy w w' b Y r ((m.prep 1 0).put (leI 1 x)):=by
 have HP:=Hd (Prep_m b Y r m 1 0 c w h (by unfold algn;omega) hu);clear h hu;have hrm:=m.prep_room 1 0;have hxl:(leI 1 x).length=1:=by first|rfl|simp
 have HX:=Hd hxl;have HR:=Hd hrm;clear hxl hrm;go_enter Tryz.func116,Tryz.ntmps116;go_wp2_with fail;refine HP.out.mono ?_;rintro e w1 ⟨rfl,Y1,c1,hY,hb,hf⟩;have HC:=Hd (PlaceUint8_ok b Y1 r (m.prep 1 0).room (m.prep 1 0).least (m.prep 1 0).bytes c1 x h0 h1 w1 hb (by have:=HR.out;omega));have HY:=Hd hY;have HF:=Hd hf;clear hY hb hf;go_wp2_with fail;refine HC.out.mono ?_;rintro e w2 ⟨rfl,hb2,hf2⟩;have HE:=Hd (BBx.trans HY.out HF.out (BBx.here hb2 hf2));clear hb2 hf2;go_wp2_with fail;go_end0
 refine⟨rfl,?_⟩;show BBx _ _ _ _ _ ((m.prep 1 0).room-(leI 1 x).length) _ _;rw[HX.out];exact HE.out
theorem PrependByte_calls(b Y:Nat)(r:BRest)(m:BM)(c:Array Value)(x:Int)(h0:0<=x)(h1:x<256)(w:World)(h:BBm w b Y r m c)(hu:m.bytes.length<=1900000):
  Calls Tryz.prog 245 #[.pointer (some ⟨b,0,none⟩),.int .u8 x] w λe w'=>e=.returned (.tuple #[])/\BBy w w' b Y r ((m.prep 1 0).put (leI 1 x)):=by
 have HP:=Hd (Prep_m b Y r m 1 0 c w h (by unfold algn;omega) hu);clear h hu;have hrm:=m.prep_room 1 0;have hxl:(leI 1 x).length=1:=by first|rfl|simp
 have HX:=Hd hxl;have HR:=Hd hrm;clear hxl hrm;go_enter Tryz.func245,Tryz.ntmps245;go_wp2_with fail;refine HP.out.mono ?_;rintro e w1 ⟨rfl,Y1,c1,hY,hb,hf⟩;have HC:=Hd (PlaceByte_ok b Y1 r (m.prep 1 0).room (m.prep 1 0).least (m.prep 1 0).bytes c1 x h0 h1 w1 hb (by have:=HR.out;omega));have HY:=Hd hY;have HF:=Hd hf;clear hY hb hf;go_wp2_with fail;refine HC.out.mono ?_;rintro e w2 ⟨rfl,hb2,hf2⟩;have HE:=Hd (BBx.trans HY.out HF.out (BBx.here hb2 hf2));clear hb2 hf2;go_wp2_with fail;go_end0
 refine⟨rfl,?_⟩;show BBx _ _ _ _ _ ((m.prep 1 0).room-(leI 1 x).length) _ _;rw[HX.out];exact HE.out
theorem PrependInt8_calls(b Y:Nat)(r:BRest)(m:BM)(c:Array Value)(x:Int)(w:World)(h:BBm w b Y r m c)(hu:m.bytes.length<=1900000):
  Calls Tryz.prog 117 #[.pointer (some ⟨b,0,none⟩),.int .i8 x] w λe w'=>e=.returned (.tuple #[])/\BBy w w' b Y r ((m.prep 1 0).put (leI 1 x)):=by
 have HP:=Hd (Prep_m b Y r m 1 0 c w h (by unfold algn;omega) hu);clear h hu;have hrm:=m.prep_room 1 0;have hxl:(leI 1 x).length=1:=by first|rfl|simp
 have HX:=Hd hxl;have HR:=Hd hrm;clear hxl hrm;go_enter Tryz.func117,Tryz.ntmps117;go_wp2_with fail;refine HP.out.mono ?_;rintro e w1 ⟨rfl,Y1,c1,hY,hb,hf⟩;have HC:=Hd (PlaceInt8_ok b Y1 r (m.prep 1 0).room (m.prep 1 0).least (m.prep 1 0).bytes c1 x w1 hb (by have:=HR.out;omega));have HY:=Hd hY;have HF:=Hd hf;clear hY hb hf;go_wp2_with fail;refine HC.out.mono ?_;rintro e w2 ⟨rfl,hb2,hf2⟩;have HE:=Hd (BBx.trans HY.out HF.out (BBx.here hb2 hf2));clear hb2 hf2;go_wp2_with fail;go_end0
 refine⟨rfl,?_⟩;show BBx _ _ _ _ _ ((m.prep 1 0).room-(leI 1 x).length) _ _;rw[HX.out];exact HE.out
theorem PrependUint16_calls(b Y:Nat)(r:BRest)(m:BM)(c:Array Value)(x:Int)(w:World)(h:BBm w b Y r m c)(hu:m.bytes.length<=1900000):
  Calls Tryz.prog 118 #[.pointer (some ⟨b,0,none⟩),.int .u16 x] w λe w'=>e=.returned (.tuple #[])/\BBy w w' b Y r ((m.prep 2 0).put (leI 2 x)):=by
 have HP:=Hd (Prep_m b Y r m 2 0 c w h (by unfold algn;omega) hu);clear h hu;have hrm:=m.prep_room 2 0;have hxl:(leI 2 x).length=2:=by first|rfl|simp
 have HX:=Hd hxl;have HR:=Hd hrm;clear hxl hrm;go_enter Tryz.func118,Tryz.ntmps118;go_wp2_with fail;refine HP.out.mono ?_;rintro e w1 ⟨rfl,Y1,c1,hY,hb,hf⟩;have HC:=Hd (PlaceUint16_ok b Y1 r (m.prep 2 0).room (m.prep 2 0).least (m.prep 2 0).bytes c1 x w1 hb (by have:=HR.out;omega));have HY:=Hd hY;have HF:=Hd hf;clear hY hb hf;go_wp2_with fail;refine HC.out.mono ?_;rintro e w2 ⟨rfl,hb2,hf2⟩;have HE:=Hd (BBx.trans HY.out HF.out (BBx.here hb2 hf2));clear hb2 hf2;go_wp2_with fail;go_end0
 refine⟨rfl,?_⟩;show BBx _ _ _ _ _ ((m.prep 2 0).room-(leI 2 x).length) _ _;rw[HX.out];exact HE.out
theorem PrependInt16_calls(b Y:Nat)(r:BRest)(m:BM)(c:Array Value)(x:Int)(w:World)(h:BBm w b Y r m c)(hu:m.bytes.length<=1900000):
  Calls Tryz.prog 119 #[.pointer (some ⟨b,0,none⟩),.int .i16 x] w λe w'=>e=.returned (.tuple #[])/\BBy w w' b Y r ((m.prep 2 0).put (leI 2 x)):=by
 have HP:=Hd (Prep_m b Y r m 2 0 c w h (by unfold algn;omega) hu);clear h hu;have hrm:=m.prep_room 2 0;have hxl:(leI 2 x).length=2:=by first|rfl|simp
 have HX:=Hd hxl;have HR:=Hd hrm;clear hxl hrm;go_enter Tryz.func119,Tryz.ntmps119;go_wp2_with fail;refine HP.out.mono ?_;rintro e w1 ⟨rfl,Y1,c1,hY,hb,hf⟩;have HC:=Hd (PlaceInt16_ok b Y1 r (m.prep 2 0).room (m.prep 2 0).least (m.prep 2 0).bytes c1 x w1 hb (by have:=HR.out;omega));have HY:=Hd hY;have HF:=Hd hf;clear hY hb hf;go_wp2_with fail;refine HC.out.mono ?_;rintro e w2 ⟨rfl,hb2,hf2⟩;have HE:=Hd (BBx.trans HY.out HF.out (BBx.here hb2 hf2));clear hb2 hf2;go_wp2_with fail;go_end0
 refine⟨rfl,?_⟩;show BBx _ _ _ _ _ ((m.prep 2 0).room-(leI 2 x).length) _ _;rw[HX.out];exact HE.out
theorem PrependVOffsetT_calls(b Y:Nat)(r:BRest)(m:BM)(c:Array Value)(x:Int)(w:World)(h:BBm w b Y r m c)(hu:m.bytes.length<=1900000):
  Calls Tryz.prog 76 #[.pointer (some ⟨b,0,none⟩),.int .u16 x] w λe w'=>e=.returned (.tuple #[])/\BBy w w' b Y r ((m.prep 2 0).put (leI 2 x)):=by
 have HP:=Hd (Prep_m b Y r m 2 0 c w h (by unfold algn;omega) hu);clear h hu;have hrm:=m.prep_room 2 0;have hxl:(leI 2 x).length=2:=by first|rfl|simp
 have HX:=Hd hxl;have HR:=Hd hrm;clear hxl hrm;go_enter Tryz.func76,Tryz.ntmps76;go_wp2_with fail;refine HP.out.mono ?_;rintro e w1 ⟨rfl,Y1,c1,hY,hb,hf⟩;have HC:=Hd (PlaceVOffsetT_ok b Y1 r (m.prep 2 0).room (m.prep 2 0).least (m.prep 2 0).bytes c1 x w1 hb (by have:=HR.out;omega));have HY:=Hd hY;have HF:=Hd hf;clear hY hb hf;go_wp2_with fail;refine HC.out.mono ?_;rintro e w2 ⟨rfl,hb2,hf2⟩;have HE:=Hd (BBx.trans HY.out HF.out (BBx.here hb2 hf2));clear hb2 hf2;go_wp2_with fail;go_end0
 refine⟨rfl,?_⟩;show BBx _ _ _ _ _ ((m.prep 2 0).room-(leI 2 x).length) _ _;rw[HX.out];exact HE.out
theorem PrependUint32_calls(b Y:Nat)(r:BRest)(m:BM)(c:Array Value)(x:Int)(w:World)(h:BBm w b Y r m c)(hu:m.bytes.length<=1900000):
  Calls Tryz.prog 120 #[.pointer (some ⟨b,0,none⟩),.int .u32 x] w λe w'=>e=.returned (.tuple #[])/\BBy w w' b Y r ((m.prep 4 0).put (leI 4 x)):=by
 have HP:=Hd (Prep_m b Y r m 4 0 c w h (by unfold algn;omega) hu);clear h hu;have hrm:=m.prep_room 4 0;have hxl:(leI 4 x).length=4:=by first|rfl|simp
 have HX:=Hd hxl;have HR:=Hd hrm;clear hxl hrm;go_enter Tryz.func120,Tryz.ntmps120;go_wp2_with fail;refine HP.out.mono ?_;rintro e w1 ⟨rfl,Y1,c1,hY,hb,hf⟩;have HC:=Hd (PlaceUint32_ok b Y1 r (m.prep 4 0).room (m.prep 4 0).least (m.prep 4 0).bytes c1 x w1 hb (by have:=HR.out;omega));have HY:=Hd hY;have HF:=Hd hf;clear hY hb hf;go_wp2_with fail;refine HC.out.mono ?_;rintro e w2 ⟨rfl,hb2,hf2⟩;have HE:=Hd (BBx.trans HY.out HF.out (BBx.here hb2 hf2));clear hb2 hf2;go_wp2_with fail;go_end0
 refine⟨rfl,?_⟩;show BBx _ _ _ _ _ ((m.prep 4 0).room-(leI 4 x).length) _ _;rw[HX.out];exact HE.out
theorem PrependInt32_calls(b Y:Nat)(r:BRest)(m:BM)(c:Array Value)(x:Int)(w:World)(h:BBm w b Y r m c)(hu:m.bytes.length<=1900000):
  Calls Tryz.prog 121 #[.pointer (some ⟨b,0,none⟩),.int .i32 x] w λe w'=>e=.returned (.tuple #[])/\BBy w w' b Y r ((m.prep 4 0).put (leI 4 x)):=by
 have HP:=Hd (Prep_m b Y r m 4 0 c w h (by unfold algn;omega) hu);clear h hu;have hrm:=m.prep_room 4 0;have hxl:(leI 4 x).length=4:=by first|rfl|simp
 have HX:=Hd hxl;have HR:=Hd hrm;clear hxl hrm;go_enter Tryz.func121,Tryz.ntmps121;go_wp2_with fail;refine HP.out.mono ?_;rintro e w1 ⟨rfl,Y1,c1,hY,hb,hf⟩;have HC:=Hd (PlaceInt32_ok b Y1 r (m.prep 4 0).room (m.prep 4 0).least (m.prep 4 0).bytes c1 x w1 hb (by have:=HR.out;omega));have HY:=Hd hY;have HF:=Hd hf;clear hY hb hf;go_wp2_with fail;refine HC.out.mono ?_;rintro e w2 ⟨rfl,hb2,hf2⟩;have HE:=Hd (BBx.trans HY.out HF.out (BBx.here hb2 hf2));clear hb2 hf2;go_wp2_with fail;go_end0
 refine⟨rfl,?_⟩;show BBx _ _ _ _ _ ((m.prep 4 0).room-(leI 4 x).length) _ _;rw[HX.out];exact HE.out
theorem PrependUint64_calls(b Y:Nat)(r:BRest)(m:BM)(c:Array Value)(x:Int)(w:World)(h:BBm w b Y r m c)(hu:m.bytes.length<=1900000):
  Calls Tryz.prog 122 #[.pointer (some ⟨b,0,none⟩),.int .u64 x] w λe w'=>e=.returned (.tuple #[])/\BBy w w' b Y r ((m.prep 8 0).put (leI 8 x)):=by
 have HP:=Hd (Prep_m b Y r m 8 0 c w h (by unfold algn;omega) hu);clear h hu;have hrm:=m.prep_room 8 0;have hxl:(leI 8 x).length=8:=by first|rfl|simp
 have HX:=Hd hxl;have HR:=Hd hrm;clear hxl hrm;go_enter Tryz.func122,Tryz.ntmps122;go_wp2_with fail;refine HP.out.mono ?_;rintro e w1 ⟨rfl,Y1,c1,hY,hb,hf⟩;have HC:=Hd (PlaceUint64_ok b Y1 r (m.prep 8 0).room (m.prep 8 0).least (m.prep 8 0).bytes c1 x w1 hb (by have:=HR.out;omega));have HY:=Hd hY;have HF:=Hd hf;clear hY hb hf;go_wp2_with fail;refine HC.out.mono ?_;rintro e w2 ⟨rfl,hb2,hf2⟩;have HE:=Hd (BBx.trans HY.out HF.out (BBx.here hb2 hf2));clear hb2 hf2;go_wp2_with fail;go_end0
 refine⟨rfl,?_⟩;show BBx _ _ _ _ _ ((m.prep 8 0).room-(leI 8 x).length) _ _;rw[HX.out];exact HE.out
theorem PrependInt64_calls(b Y:Nat)(r:BRest)(m:BM)(c:Array Value)(x:Int)(w:World)(h:BBm w b Y r m c)(hu:m.bytes.length<=1900000):
  Calls Tryz.prog 123 #[.pointer (some ⟨b,0,none⟩),.int .i64 x] w λe w'=>e=.returned (.tuple #[])/\BBy w w' b Y r ((m.prep 8 0).put (leI 8 x)):=by
 have HP:=Hd (Prep_m b Y r m 8 0 c w h (by unfold algn;omega) hu);clear h hu;have hrm:=m.prep_room 8 0;have hxl:(leI 8 x).length=8:=by first|rfl|simp
 have HX:=Hd hxl;have HR:=Hd hrm;clear hxl hrm;go_enter Tryz.func123,Tryz.ntmps123;go_wp2_with fail;refine HP.out.mono ?_;rintro e w1 ⟨rfl,Y1,c1,hY,hb,hf⟩;have HC:=Hd (PlaceInt64_ok b Y1 r (m.prep 8 0).room (m.prep 8 0).least (m.prep 8 0).bytes c1 x w1 hb (by have:=HR.out;omega));have HY:=Hd hY;have HF:=Hd hf;clear hY hb hf;go_wp2_with fail;refine HC.out.mono ?_;rintro e w2 ⟨rfl,hb2,hf2⟩;have HE:=Hd (BBx.trans HY.out HF.out (BBx.here hb2 hf2));clear hb2 hf2;go_wp2_with fail;go_end0
 refine⟨rfl,?_⟩;show BBx _ _ _ _ _ ((m.prep 8 0).room-(leI 8 x).length) _ _;rw[HX.out];exact HE.out
theorem PrependFloat32_calls(b Y:Nat)(r:BRest)(m:BM)(c:Array Value)(x:Nat)(w:World)(h:BBm w b Y r m c)(hu:m.bytes.length<=1900000):
  Calls Tryz.prog 124 #[.pointer (some ⟨b,0,none⟩),.float .f32 x] w λe w'=>e=.returned (.tuple #[])/\BBy w w' b Y r ((m.prep 4 0).put (leI 4 x)):=by
 have HP:=Hd (Prep_m b Y r m 4 0 c w h (by unfold algn;omega) hu);clear h hu;have hrm:=m.prep_room 4 0;have hxl:(leI 4 x).length=4:=by first|rfl|simp
 have HX:=Hd hxl;have HR:=Hd hrm;clear hxl hrm;go_enter Tryz.func124,Tryz.ntmps124;go_wp2_with fail;refine HP.out.mono ?_;rintro e w1 ⟨rfl,Y1,c1,hY,hb,hf⟩;have HC:=Hd (PlaceFloat32_ok b Y1 r (m.prep 4 0).room (m.prep 4 0).least (m.prep 4 0).bytes c1 x w1 hb (by have:=HR.out;omega));have HY:=Hd hY;have HF:=Hd hf;clear hY hb hf;go_wp2_with fail;refine HC.out.mono ?_;rintro e w2 ⟨rfl,hb2,hf2⟩;have HE:=Hd (BBx.trans HY.out HF.out (BBx.here hb2 hf2));clear hb2 hf2;go_wp2_with fail;go_end0
 refine⟨rfl,?_⟩;show BBx _ _ _ _ _ ((m.prep 4 0).room-(leI 4 x).length) _ _;rw[HX.out];exact HE.out
theorem PrependFloat64_calls(b Y:Nat)(r:BRest)(m:BM)(c:Array Value)(x:Nat)(w:World)(h:BBm w b Y r m c)(hu:m.bytes.length<=1900000):
  Calls Tryz.prog 126 #[.pointer (some ⟨b,0,none⟩),.float .f64 x] w λe w'=>e=.returned (.tuple #[])/\BBy w w' b Y r ((m.prep 8 0).put (leI 8 x)):=by
 have HP:=Hd (Prep_m b Y r m 8 0 c w h (by unfold algn;omega) hu);clear h hu;have hrm:=m.prep_room 8 0;have hxl:(leI 8 x).length=8:=by first|rfl|simp
 have HX:=Hd hxl;have HR:=Hd hrm;clear hxl hrm;go_enter Tryz.func126,Tryz.ntmps126;go_wp2_with fail;refine HP.out.mono ?_;rintro e w1 ⟨rfl,Y1,c1,hY,hb,hf⟩;have HC:=Hd (PlaceFloat64_ok b Y1 r (m.prep 8 0).room (m.prep 8 0).least (m.prep 8 0).bytes c1 x w1 hb (by have:=HR.out;omega));have HY:=Hd hY;have HF:=Hd hf;clear hY hb hf;go_wp2_with fail;refine HC.out.mono ?_;rintro e w2 ⟨rfl,hb2,hf2⟩;have HE:=Hd (BBx.trans HY.out HF.out (BBx.here hb2 hf2));clear hb2 hf2;go_wp2_with fail;go_end0
 refine⟨rfl,?_⟩;show BBx _ _ _ _ _ ((m.prep 8 0).room-(leI 8 x).length) _ _;rw[HX.out];exact HE.out
structure BSt where
 m:BM
 vtab:Option (List Nat)
 oend:Nat
 vts:List Nat
 nested:Bool
 fin:Bool
 shared:Option (DataW Unit)
def u32s (l:List Nat):List Value:=l.map λ(x:Nat)=>.int .u32 x
theorem u32s_length(l:List Nat):(u32s l).length=l.length:=by simp[u32s]
def OffRow(w:World)(V:Nat)(v:Value)(l:List Nat):Prop :=
 ∃cv:Array Value,v=.slice (some ⟨V,0,none⟩) l.length cv.size/\w.heap[V]?=some (.cells cv 98)/\l.length<=cv.size/\cv.toList.take l.length=u32s l/\cv.size<=maxLen
def VtRep(w:World)(b V:Nat)(v:Value):Option (List Nat)->Prop
 | none=>v=.slice none 0 0/\V=b
 | some l=>OffRow w V v l
def ShRep(w:World)(b M:Nat)(v:Value):Option (DataW Unit)->Prop
 | none=>v=.map none/\M=b
 | some D=>v=.map (some M)/\∃n,n<=1000000/\w.ownsMap Tryz.prog 9 (plainElem Tryz.prog 98) M n D
structure BOther(w:World)(b V G M:Nat)(r:BRest)(st:BSt):Prop where
 vt:VtRep w b V r.v2 st.vtab
 oe:r.v3=.int .u32 st.oend
 vs:OffRow w G r.v4 st.vts
 ne:r.v6=.bool st.nested
 fi:r.v7=.bool st.fin
 sh:ShRep w b M r.v8 st.shared
 vg:V≠G
def BRep (w:World)(b:Nat)(F:List Nat)(st:BSt):Prop :=
 ∃Y V G M r c,F=[b,Y,V,G,M]/\BBm w b Y r st.m c/\BOther w b V G M r st
def Adv (w w':World)(F F':List Nat):Prop:=Fr (λk=>k∈F) w w'/\∀k∈F',k∈F\/w.heap.size<=k
theorem Adv.refl(w:World)(F:List Nat):Adv w w F F:=⟨Fr.refl _ _,λ_ h=>.inl h⟩
theorem Adv.trans{w w1 w2:World}{F F1 F2:List Nat}(h:Adv w w1 F F1)(k:Adv w1 w2 F1 F2):Adv w w2 F F2:=by
 have hs:=h.1.size;refine⟨h.1.trans2 k.1 (λi hi hm=>?_),λi hi=>?_⟩
 ·rcases h.2 i hm with h|h
  ·exact h
  ·omega
 ·rcases k.2 i hi with h1|h1
  ·exact h.2 i h1
  ·right;omega
theorem Adv.drewN{w w':World}{F F':List Nat}(h:Adv w w' F F')(n:Nat):Adv w (w'.drewN n) F F':=⟨h.1.drewN n,h.2⟩
theorem OffRow.fr{w w':World}{S:Nat->Prop}{V:Nat}{v:Value}{l:List Nat}(h:OffRow w V v l)(hf:Fr S w w')(hV:¬S V):OffRow w' V v l:=by
 obtain⟨cv,h1,h2,h3⟩:=h;exact⟨cv,h1,(hf.block V (lt_of_block h2) hV).trans h2,h3⟩
theorem OffRow.ne_of{w:World}{V k:Nat}{v:Value}{l:List Nat}{c:Array Value}{t:TypeId}{fr:Nat × Nat}(h:OffRow w V v l)(hk:w.heap[k]?=some (.cells c t fr))(ht:t≠98):V≠k:=by
 obtain⟨cv,_,h2,_⟩:=h;rintro rfl;rw[h2] at hk;injection hk with hk;injection hk with _ e _;exact ht e.symm
theorem ShRep.ne_of{w:World}{b M k:Nat}{v:Value}{D:DataW Unit}{c:Array Value}{t:TypeId}{fr:Nat × Nat}(h:ShRep w b M v (some D))(hk:w.heap[k]?=some (.cells c t fr)):M≠k:=by
 obtain⟨_,n,_,es,cl,h2,_⟩:=h;rintro rfl;rw[h2] at hk;cases hk
theorem ShRep.lt{w:World}{b M:Nat}{v:Value}{D:DataW Unit}(h:ShRep w b M v (some D)):M<w.heap.size:=by
 obtain⟨_,n,_,es,cl,h2,_⟩:=h;exact lt_of_block h2
theorem ShRep.fr{w w':World}{S:Nat->Prop}{b M:Nat}{v:Value}{o:Option (DataW Unit)}(h:ShRep w b M v o)(hf:Fr S w w')(hM:o≠none->¬S M):ShRep w' b M v o:=by
 cases o with
 | none=>exact h
 | some D =>
  have hl:=h.lt;obtain⟨e,n,hn,es,cl,h2,h3⟩:=h;exact⟨e,n,hn,es,cl,(hf.block M hl (hM (by simp))).trans h2,h3⟩
theorem BOther.fr{w w':World}{S:Nat->Prop}{b V G M:Nat}{r:BRest}{st:BSt}(h:BOther w b V G M r st)(hf:Fr S w w')(hV:st.vtab≠none->¬S V)(hG:¬S G)(hM:st.shared≠none->¬S M):BOther w' b V G M r st:=by
 refine⟨?_,h.oe,h.vs.fr hf hG,h.ne,h.fi,h.sh.fr hf hM,h.vg⟩;have hv:=h.vt;cases hc:st.vtab with
 | none=>rw[hc] at hv;exact hv
 | some l=>rw[hc] at hv hV;exact OffRow.fr hv hf (hV (by simp))
theorem BRep.bytes{w w':World}{b Y V G M:Nat}{r:BRest}{c:Array Value}{st:BSt}{m':BM}(hb:BBm w b Y r st.m c)(ho:BOther w b V G M r st)(h:BBy w w' b Y r m'):
  ∃F',BRep w' b F' { st with m:=m' }/\Adv w w' [b,Y,V,G,M] F':=by
 obtain⟨Y',c',hY,hb',hf⟩:=h;have hGb:G≠b:=ho.vs.ne_of hb.hb (by decide);have hGY:G≠Y:=ho.vs.ne_of hb.hy (by decide);refine⟨[b,Y',V,G,M],⟨Y',V,G,M,r,c',rfl,hb',?_⟩,hf.mono (λi _ hi=>by rcases hi with rfl|rfl<;>simp),λk hk=>?_⟩
 ·have:=ho.fr hf (λhv=>?_) (λx=>x.elim hGb hGY) (λhs=>?_)
  ·exact⟨this.vt,this.oe,this.vs,this.ne,this.fi,this.sh,this.vg⟩
  ·have hvt:=ho.vt;cases hc:st.vtab with
   | none=>exact absurd hc hv
   | some l =>
    rw[hc] at hvt;exact λx=>x.elim (OffRow.ne_of hvt hb.hb (by decide)) (OffRow.ne_of hvt hb.hy (by decide))
  ·have hsh:=ho.sh;cases hc:st.shared with
   | none=>exact absurd hc hs
   | some D =>
    rw[hc] at hsh;exact λx=>x.elim (ShRep.ne_of hsh hb.hb) (ShRep.ne_of hsh hb.hy)
 ·simp only[List.mem_cons,List.not_mem_nil,or_false] at hk;rcases hk with rfl|rfl|rfl|rfl|rfl
  ·simp
  ·rcases hY with rfl|h
   ·simp
   ·exact .inr h
  ·simp
  ·simp
  ·simp
theorem infoU32o:(Tryz.prog.info? 98).map (λi=>(i.zero,i.size,i.bytes))=some (some (.int .u32 0),1,4):=by kernel_rfl
def st0 (n:Nat):BSt:=⟨⟨n,1,[]⟩,none,0,[],false,false,none⟩
theorem NewBuilder_calls(n:Nat)(w:World)(hn:n<=5000):
  Calls Tryz.prog 41 #[.int .i64 n] w λe w'=>e=.returned (.pointer (some ⟨w.heap.size,0,none⟩))/\∃F',BRep w' w.heap.size F' (st0 n)/\Adv w w' [] F':=by
 obtain⟨i0,hi,hz0,hz1,hz2⟩:=info_parts' infoU8b;obtain⟨i1,hj,hy0,hy1,hy2⟩:=info_parts' infoU32o;have hmk:=λw'=>run_make (P:=Tryz.prog) w' 81 5 i0 (.int .u8 0) Tryz.underlying81 hi hz0 .i64 .i64 n n (by omega) (by omega) (by rw[hz2];omega) (by omega);rw[hz1] at hmk;simp only[Int.toNat_natCast,Nat.mul_one,Value.cells] at hmk;have hmk2:=λw'=>run_make (P:=Tryz.prog) w' 100 98 i1 (.int .u32 0) Tryz.underlying100 hj hy0 .i64 .i64 0 16 (by omega) (by omega) (by rw[hy2];omega) (by omega);rw[hy1] at hmk2;have key:∀w',w'=((w.alloc (.cells (bCells (w.heap.size+1) n n 1 n ⟨.slice none 0 0,.int .u32 0,.slice (some ⟨w.heap.size+2,0,none⟩) 0 16,.bool false,.bool false,.map none⟩) 103)).alloc (.cells (madeCells #[Value.int .u8 0] n) 5)).alloc (.cells (madeCells #[Value.int .u32 0] 16) 98) ->
   ∃F',BRep w' w.heap.size F' (st0 n)/\Adv w w' [] F':=by
  rintro w' rfl;have hs1:(w.alloc (.cells (bCells (w.heap.size+1) n n 1 n ⟨.slice none 0 0,.int .u32 0,.slice (some ⟨w.heap.size+2,0,none⟩) 0 16,.bool false,.bool false,.map none⟩) 103)).heap.size=w.heap.size+1:=by rw[size_alloc]
  refine⟨[w.heap.size,w.heap.size+1,w.heap.size,w.heap.size+2,w.heap.size],⟨w.heap.size+1,w.heap.size,w.heap.size+2,w.heap.size,⟨.slice none 0 0,.int .u32 0,.slice (some ⟨w.heap.size+2,0,none⟩) 0 16,.bool false,.bool false,.map none⟩,madeCells #[Value.int .u8 0] n,rfl,?_,?_⟩,?_,?_⟩
  ·have hsz:(madeCells #[Value.int .u8 0] n).size=n:=by rw[<-Array.length_toList,toList_madeCells_one];simp
   refine⟨?_,?_,by show n+0<=_;omega,?_,by show n+0<=_;omega,by omega,by rw[hsz];unfold maxLen;omega,?_,by intro h;rw[hsz];exact h⟩
   ·rw[heap_alloc_old _ _ _ (by simp only[size_alloc];omega),heap_alloc_old _ _ _ (by simp only[size_alloc];omega),heap_alloc_new,hsz];rfl
   ·rw[heap_alloc_old _ _ _ (by simp only[size_alloc];omega)];have:=heap_alloc_new (w.alloc (.cells (bCells (w.heap.size+1) n n 1 n ⟨.slice none 0 0,.int .u32 0,.slice (some ⟨w.heap.size+2,0,none⟩) 0 16,.bool false,.bool false,.map none⟩) 103)) (.cells (madeCells #[Value.int .u8 0] n) 5)
    rw[hs1] at this;exact this
   ·show List.drop n (List.take (n+0) _)=_;rw[List.drop_of_length_le (by simp only[List.length_take];omega)];rfl
   ·intro v hv;have hv:=List.mem_of_mem_take hv;rw[toList_madeCells_one] at hv;rw[(List.mem_replicate.1 hv).2];rfl
  ·refine⟨⟨rfl,rfl⟩,rfl,⟨madeCells #[Value.int .u32 0] 16,by rw[size_madeCells];rfl,?_,by simp[st0],by simp[st0,u32s],by rw[size_madeCells];decide⟩,rfl,rfl,⟨rfl,rfl⟩,by omega⟩;have:=heap_alloc_new ((w.alloc (.cells (bCells (w.heap.size+1) n n 1 n ⟨.slice none 0 0,.int .u32 0,.slice (some ⟨w.heap.size+2,0,none⟩) 0 16,.bool false,.bool false,.map none⟩) 103)).alloc (.cells (madeCells #[Value.int .u8 0] n) 5)) (.cells (madeCells #[Value.int .u32 0] 16) 98)
   rw[size_alloc,hs1] at this;exact this
  ·exact (((Fr.refl _ w).alloc _).alloc _).alloc _
  ·intro k hk;simp only[List.mem_cons,List.not_mem_nil,or_false] at hk;right;omega
 by_cases h0:n=0
 ·subst h0;have hmk:=λw'=>run_make (P:=Tryz.prog) w' 81 5 i0 (.int .u8 0) Tryz.underlying81 hi hz0 .i64 .i64 0 0 (by omega) (by omega) (by rw[hz2];omega) (by omega);rw[hz1] at hmk;show Calls Tryz.prog 41 #[.int .i64 0] w _;have key:=Hd key;go_enter Tryz.func41,Tryz.ntmps41;go_wp2_with fail;go_ret;exact⟨rfl,key.out _ rfl⟩
 ·have hnp:¬((n:Int)<=0):=by omega
  have key:=Hd key;go_enter Tryz.func41,Tryz.ntmps41;go_wp2_with fail;go_ret;exact⟨rfl,key.out _ rfl⟩
theorem quiet_drew{P:Program}{f:FuncId}{args:Array Value}{w:World}{n:Nat}{v:Value}(h:Calls P f args (w.drewN n) λe w'=>e=.returned v/\∃m,w'=(w.drewN n).drewN m):
  Calls P f args (w.drewN n) λe w''=>e=.returned v/\∃m,w''=w.drewN m:=h.mono λ_ _ h=>by
 obtain⟨h1,m,rfl⟩:=h;exact⟨h1,n+m,World.drewN_drewN _ _ _⟩
def BRes (w:World)(b:Nat)(F:List Nat)(o:Option (Value × BSt)):Ending->World->Prop:=λe w' =>
 match o with
 | none=>Falls2 (λk=>k∈F) w e w'
 | some (v,st')=>e=.returned v/\∃F',BRep w' b F' st'/\Adv w w' F F'
theorem BRep.drewN{w:World}{b:Nat}{F:List Nat}{st:BSt}(h:BRep w b F st)(n:Nat):BRep (w.drewN n) b F st:=by
 obtain⟨Y,V,G,M,r,c,rfl,hb,ho⟩:=h;refine⟨Y,V,G,M,r,c,rfl,hb.drewN n,ho.fr (S:=λ_=>False) ((Fr.refl _ w).drewN n) (λ_ h=>h) (λh=>h) (λ_ h=>h)⟩
theorem Adv.of_drewN{w w':World}{F F':List Nat}{n:Nat}(h:Adv (w.drewN n) w' F F'):Adv w w' F F':=((Adv.refl w F).drewN n).trans h
theorem BRep.mem{w:World}{b:Nat}{F:List Nat}{st:BSt}(h:BRep w b F st):b∈F:=by
 obtain⟨Y,V,G,M,r,c,rfl,hb,ho⟩:=h;simp
theorem BRep.cells{w:World}{b:Nat}{F:List Nat}{st:BSt}(h:BRep w b F st):w.cell? ⟨b,6,none⟩=some (.bool st.nested)/\w.cell? ⟨b,7,none⟩=some (.bool st.fin)/\w.cell? ⟨b,3,none⟩=some (.int .u32 st.oend)/\w.cell? ⟨b,5,none⟩=some (.int .u32 st.m.room)/\w.cell? ⟨b,1,none⟩=some (.int .i64 st.m.least):=by
 obtain⟨Y,V,G,M,r,c,rfl,hb,ho⟩:=h;refine⟨?_,?_,?_,?_,?_⟩
 ·rw[cell_of hb.hb,<-ho.ne];rfl
 ·rw[cell_of hb.hb,<-ho.fi];rfl
 ·rw[cell_of hb.hb,<-ho.oe];rfl
 ·rw[cell_of hb.hb];rfl
 ·rw[cell_of hb.hb];rfl
theorem BRep.frozen{w:World}{b:Nat}{F:List Nat}{st:BSt}(h:BRep w b F st)(k:Nat):w.frozen? ⟨b,k,none⟩=false:=by
 obtain⟨Y,V,G,M,r,c,rfl,hb,ho⟩:=h;exact frozen_of hb.hb k
theorem assertNotNested_calls(b:Nat)(F:List Nat)(st:BSt)(w:World)(h:BRep w b F st):
  Calls Tryz.prog 110 #[.pointer (some ⟨b,0,none⟩)] w λe w'=>(if st.nested then ∃u v,e=.panicked [{ v:=.iface u v,recovered:=false }] else e=.returned (.tuple #[]))/\w'=w:=by
 obtain⟨c6,_⟩:=h.cells;clear h;cases hn:st.nested with
 | true =>
  rw[hn] at c6;go_enter Tryz.func110,Tryz.ntmps110;go_wp2_with fail;exact⟨rfl,⟨_,_,rfl⟩,rfl⟩
 | false =>
  rw[hn] at c6;go_enter Tryz.func110,Tryz.ntmps110;go_wp2_with fail;go_end0
  exact⟨rfl,rfl⟩
theorem assertNested_calls(b:Nat)(F:List Nat)(st:BSt)(w:World)(h:BRep w b F st):
  Calls Tryz.prog 112 #[.pointer (some ⟨b,0,none⟩)] w λe w'=>(if st.nested then e=.returned (.tuple #[]) else ∃u v,e=.panicked [{ v:=.iface u v,recovered:=false }])/\w'=w:=by
 obtain⟨c6,_⟩:=h.cells;clear h;cases hn:st.nested with
 | false =>
  rw[hn] at c6;go_enter Tryz.func112,Tryz.ntmps112;go_wp2_with fail;exact⟨rfl,⟨_,_,rfl⟩,rfl⟩
 | true =>
  rw[hn] at c6;go_enter Tryz.func112,Tryz.ntmps112;go_wp2_with fail;go_end0
  exact⟨rfl,rfl⟩
theorem assertFinished_calls(b:Nat)(F:List Nat)(st:BSt)(w:World)(h:BRep w b F st):
  Calls Tryz.prog 111 #[.pointer (some ⟨b,0,none⟩)] w λe w'=>(if st.fin then e=.returned (.tuple #[]) else ∃u v,e=.panicked [{ v:=.iface u v,recovered:=false }])/\w'=w:=by
 obtain⟨_,c7,_⟩:=h.cells;clear h;cases hn:st.fin with
 | false =>
  rw[hn] at c7;go_enter Tryz.func111,Tryz.ntmps111;go_wp2_with fail;exact⟨rfl,⟨_,_,rfl⟩,rfl⟩
 | true =>
  rw[hn] at c7;go_enter Tryz.func111,Tryz.ntmps111;go_wp2_with fail;go_end0
  exact⟨rfl,rfl⟩
theorem run_index_out'{P:Program}(t:TypeId)(a0:Option Addr)(len cap:Nat)(k:IntKind)(i:Int){e:TypeId}(h0:P.underlying t=some (.slice e))(hnil:a0=none->len=0)(ho:i<0\/(len:Int)<=i):
  ∃(fu:World->TypeId) (fv:World->Value) (fn:World->Nat),∀w,(Instr.indexAt t (.slice a0 len cap) (.int k i)).run P w=.halt (.panic (.iface (fu w) (fv w))) (w.drewN (fn w)):=by
 have h:=λw=>run_index_out (P:=P) w t a0 len cap k i h0 hnil ho;exact⟨λw=>(h w).choose,λw=>(h w).choose_spec.choose,λw=>(h w).choose_spec.choose_spec.choose,λw=>(h w).choose_spec.choose_spec.choose_spec⟩
def BSt.slot(st:BSt)(i:Int):Option BSt :=
 match st.vtab with
 | none=>none
 | some l=>if 0<=i/\i.toNat<l.length then some { st with vtab:=some (l.set i.toNat st.m.bytes.length) } else none
theorem OffRow.set{w:World}{V:Nat}{v:Value}{l:List Nat}(h:OffRow w V v l)(i x:Nat):OffRow (w.setCell ⟨V,i,none⟩ (.int .u32 x)) V v (l.set i x):=by
 obtain⟨cv,h1,h2,h3,h4,h5⟩:=h;refine⟨cv.set! i (.int .u32 x),by rw[h1];simp,heap_setCell_same h2 i _,by simpa using h3,?_,by simpa using h5⟩;simp only[Array.set!_eq_setIfInBounds,Array.toList_setIfInBounds,List.length_set];rw[List.take_set,h4];unfold u32s;rw[List.map_set]
theorem BRep.vtset{w:World}{b Y V G M:Nat}{r:BRest}{c:Array Value}{st:BSt}{l:List Nat}(hb:BBm w b Y r st.m c)(ho:BOther w b V G M r st)(hl:st.vtab=some l)(i x:Nat):
  BRep (w.setCell ⟨V,i,none⟩ (.int .u32 x)) b [b,Y,V,G,M] { st with vtab:=some (l.set i x) }/\Adv w (w.setCell ⟨V,i,none⟩ (.int .u32 x)) [b,Y,V,G,M] [b,Y,V,G,M]:=by
 have hvt:=ho.vt;rw[hl] at hvt;have hVb:=OffRow.ne_of hvt hb.hb (by decide);have hVY:=OffRow.ne_of hvt hb.hy (by decide);have hf:Fr (λk=>k=V) w (w.setCell ⟨V,i,none⟩ (.int .u32 x)):=(Fr.refl (λk=>k=V) w).setCell (λ_=>rfl) _;refine⟨⟨Y,V,G,M,r,c,rfl,hb.fr hf (λe=>hVb e.symm) (λe=>hVY e.symm),?_⟩,hf.mono (λi _ hi=>by subst hi;simp),λk hk=>.inl hk⟩;have hsh:=ho.sh;refine⟨OffRow.set hvt i x,ho.oe,ho.vs.fr hf (λe=>ho.vg e.symm),ho.ne,ho.fi,hsh.fr hf (λhs e=>?_),ho.vg⟩;cases hc:st.shared with
 | none=>exact hs hc
 | some D =>
  rw[hc] at hsh;obtain⟨cv,_,h2,_⟩:=hvt;exact ShRep.ne_of hsh (e▸h2) rfl
theorem Slot_calls(b:Nat)(F:List Nat)(st:BSt)(i:Int)(w:World)(h:BRep w b F st):
  Calls Tryz.prog 78 #[.pointer (some ⟨b,0,none⟩),.int .i64 i] w (BRes w b F ((st.slot i).map λx=>(.tuple #[],x))):=by
 obtain⟨Y,V,G,M,r,c,rfl,hb,ho⟩:=h;have c2:w.cell? ⟨b,2,none⟩=some r.v2:=by rw[cell_of hb.hb];rfl
 have HO:=Hd (λnq=>Offset_calls b Y r st.m.room st.m.least st.m.bytes c (w.drewN nq) (hb.drewN nq));have HO2:∀w',(w'.cell? ⟨b,2,none⟩=some r.v2/\∃k,w'=w.drewN k)->Calls Tryz.prog 44 #[.pointer (some ⟨b,0,none⟩)] w' λe w''=>e=.returned (.int .u32 st.m.bytes.length)/\(w''.cell? ⟨b,2,none⟩=some r.v2/\∃k,w''=w.drewN k):=by
  rintro w' ⟨h1,k,rfl⟩;refine (HO.out k).mono ?_;rintro e w' ⟨rfl,n,rfl⟩;exact⟨rfl,h1,k+n,World.drewN_drewN _ _ _⟩
 have HO2:=Hd HO2;have hfalls:∀(S:Nat->Prop) a0 n cp,r.v2=.slice a0 n cp->(a0=none->n=0)->(i<0\/(n:Int)<=i)->Calls Tryz.prog 78 #[.pointer (some ⟨b,0,none⟩),.int .i64 i] w (Falls2 S w):=by
  intro S a0 n cp hr2 hnil hout;rw[hr2] at c2 HO2;obtain⟨fu,fv,fn,hidx⟩:=run_index_out' (P:=Tryz.prog) 100 a0 n cp .i64 i Tryz.underlying100 hnil hout;have hfal:∀w',(w'.cell? ⟨b,2,none⟩=some (.slice a0 n cp)/\∃k,w'=w.drewN k)->Fr S w (w'.drewN (fn w')):=by
   rintro w' ⟨_,k,rfl⟩;exact ((Fr.refl _ w).drewN _).drewN _
  have HF:=Hd hfal;clear hb ho hr2 hout hnil hfal;go_enter Tryz.func78,Tryz.ntmps78;refine wp_region_held_drew (S:=λw'=>w'.cell? ⟨b,2,none⟩=some (.slice a0 n cp)/\∃k,w'=w.drewN k) kr ⟨c2,1,rfl⟩ (λhHeld=>?_);refine tk 0 (.pointer (some ⟨b,0,none⟩)) rfl ?_ ?_
  ·rintro _ ⟨hc,n,rfl⟩;go_simp
  simp only[Act.put,zA,zB,zC];refine tk 1 (.pointer (some ⟨b,0,none⟩)) rfl ?_ ?_
  ·rintro _ ⟨hc,n,rfl⟩;go_simp
  simp only[Act.put,zA,zB,zC];refine tk 2 (.pointer (some ⟨b,2,none⟩)) rfl ?_ ?_
  ·rintro _ ⟨hc,n,rfl⟩;go_simp
  simp only[Act.put,zA,zB,zC];refine tk 3 (.slice a0 n cp) rfl ?_ ?_
  ·rintro _ ⟨hc,n,rfl⟩;go_simp
  simp only[Act.put,zA,zB,zC];refine tk 4 (.int .i64 i) rfl ?_ ?_
  ·rintro _ ⟨hc,n,rfl⟩;go_simp
  simp only[Act.put,zA,zB,zC];refine tk 5 (.pointer (some ⟨b,0,none⟩)) rfl ?_ ?_
  ·rintro _ ⟨hc,n,rfl⟩;go_simp
  simp only[Act.put,zA,zB,zC];refine rd 6 rfl λK hK=>?_;go_simp;refine (HO2.out _ hHeld).mono ?_;rintro e w' ⟨rfl,hSS⟩;refine hK.out _ _ hSS (λhS2=>?_);try simp only[Act.put,zA,zB,zC]
  refine rd 7 rfl λK hK=>?_;go_simp;exact⟨rfl,⟨_,_,rfl⟩,HF.out _ hS2⟩
 have hvt:=ho.vt;cases hv:st.vtab with
 | none =>
  rw[hv] at hvt;have e:st.slot i=none:=by unfold BSt.slot;rw[hv]
  rw[e];exact hfalls _ none 0 0 hvt.1 (λ_=>rfl) (by omega)
 | some l =>
  have hvs:=BRep.vtset hb ho hv;rw[hv] at hvt;obtain⟨cv,h1,h2,h3,h4,h5⟩:=hvt;by_cases hi:0<=i/\i.toNat<l.length
  ·have e:st.slot i=some { st with vtab:=some (l.set i.toNat st.m.bytes.length) }:=by unfold BSt.slot;rw[hv];exact if_pos hi
   rw[e];clear e;obtain⟨k,rfl⟩:∃k:Nat,i=k:=⟨i.toNat,by omega⟩;have hk:k<l.length:=(by simpa using hi.2);rw[h1] at c2;have fV:=frozen_of h2;obtain⟨v0,cV⟩:∃v0,w.cell? ⟨V,k,none⟩=some v0:=⟨_,(cell_of h2 k).trans (Array.getElem?_eq_getElem (by omega))⟩;have HVS:=Hd (λnq=>BRep.vtset (w:=w.drewN nq) (hb.drewN nq) (ho.fr (S:=λ_=>False) ((Fr.refl _ w).drewN nq) (λ_ h=>h) (λh=>h) (λ_ h=>h)) hv k st.m.bytes.length);clear hb ho h1 h3 h4 h5 hvs hfalls hi HO2 hv;go_enter Tryz.func78,Tryz.ntmps78;refine lst _ ?_;simp only[List.dropLast];repeat (go_big_quiet_step ((go_at_call 44;exact quiet_drew (HO.out _))))
   refine wpQuiet_nil ?_;intro nq;refine wpOp_step rfl (λK hK=>?_);go_simp;refine hK _ _ ?_;go_wp2_with fail;go_end0
   exact⟨rfl,_,(HVS.out nq).1,(HVS.out nq).2.of_drewN⟩
  ·have e:st.slot i=none:=by unfold BSt.slot;rw[hv];exact if_neg hi
   rw[e];exact hfalls _ _ l.length cv.size h1 (λe=>by cases e) (by omega)
theorem BB.to{w:World}{b Y:Nat}{r:BRest}{room least:Nat}{bytes bytes':List UInt8}{c:Array Value}(h:BB w b Y r room least bytes c)(e:bytes=bytes'):BB w b Y r room least bytes' c:=e▸h
theorem BM.pad_lt(m:BM)(size add:Nat)(hs:algn size):m.pad size add<size:=by
 unfold BM.pad padB;unfold algn at hs;exact Nat.mod_lt _ (by omega)
theorem BM.prep_len(m:BM)(size add:Nat)(hs:algn size):(m.prep size add).bytes.length=m.pad size add+m.bytes.length:=by
 show (List.replicate _ _++m.bytes).length=_;simp
theorem BM.prep_le(m:BM)(size add:Nat)(hs:algn size):(m.prep size add).bytes.length<size+m.bytes.length:=by
 rw[m.prep_len size add hs];have:=m.pad_lt size add hs
 omega
theorem algn_le{s:Nat}(h:algn s):s<=16:=by unfold algn at h;omega
def BM.refer(m:BM)(off:Nat):Option BM :=
 if off<=(m.prep 4 0).bytes.length then some ((m.prep 4 0).put (leB 4 ((m.prep 4 0).bytes.length-off+4))) else none
def BOut (w:World)(b Y:Nat)(r:BRest)(o:Option BM):Ending->World->Prop:=λe w' =>
 match o with
 | none=>Falls2 (λk=>k=b\/k=Y) w e w'
 | some m=>e=.returned (.tuple #[])/\BBy w w' b Y r m
theorem PrependUOffsetT_calls(b Y:Nat)(r:BRest)(m:BM)(c:Array Value)(off:Nat)(w:World)(h:BBm w b Y r m c)(hu:m.bytes.length<=1900000)(hoff:off<4294967296):
  Calls Tryz.prog 73 #[.pointer (some ⟨b,0,none⟩),.int .u32 off] w (BOut w b Y r (m.refer off)):=by
 have ha:algn 4:=by unfold algn;omega
 have HP:=Hd (Prep_m b Y r m 4 0 c w h ha hu);have hrm:=m.prep_room 4 0;have hle:=m.prep_le 4 0 ha;clear h;unfold BM.refer;have HR:=Hd hrm;clear hrm ha;obtain⟨n,hn⟩:=exA ((m.prep 4 0).bytes.length);rw[<-hn] at hle ⊢;have hn2:n<=1900004:=by omega
 have HN:=Hd hn;clear hn hle;by_cases hlt:off<=n
 ·rw[if_pos hlt];go_enter Tryz.func73,Tryz.ntmps73;go_wp2_with fail;refine HP.out.mono ?_;rintro e w1 ⟨rfl,Y1,c1,hY,hb,hf⟩;have HB:=Hd hb;have HY:=Hd hY;have HF:=Hd hf;have HO:=λnq=>Hd (Offset_calls b Y1 r (m.prep 4 0).room (m.prep 4 0).least (m.prep 4 0).bytes c1 (w1.drewN nq) (hb.drewN nq));rw[<-HN.out] at HO;clear hY hb hf;go_wp2_with fail;refine (HO 0).out.mono ?_;rintro e w2 ⟨rfl,n2,rfl⟩;go_wp2_with fail;refine (HO n2).out.mono ?_;rintro e w3 ⟨rfl,n3,rfl⟩;go_wp2_with fail;refine (PlaceUOffsetT_ok b Y1 r (m.prep 4 0).room (m.prep 4 0).least (m.prep 4 0).bytes c1 _ (w1.drewN (n2+n3)) (HB.out.drewN _) (by have:=HR.out;omega)).mono ?_;rintro e w4 ⟨rfl,hb4,hf4⟩;have HB4:=Hd hb4;have HF4:=Hd hf4;clear hb4 hf4;go_wp2_with fail;go_end0
  refine⟨rfl,?_⟩;refine BBx.trans HY.out (HF.out.drewN (n2+n3)) (BBx.here ?_ HF4.out);obtain⟨c',hb⟩:=HB4.out;refine⟨c',?_⟩;show BB _ _ _ _ ((m.prep 4 0).room-(leB 4 (n-off+4)).length) _ (leB 4 (n-off+4)++_) _;rw[<-leI_nat,leI_length];refine hb.to (congrArg (·++_) (leI_congr 4 ?_));omega
 ·rw[if_neg hlt];go_enter Tryz.func73,Tryz.ntmps73;go_wp2_with fail;refine HP.out.mono ?_;rintro e w1 ⟨rfl,Y1,c1,hY,hb,hf⟩;have HF:=Hd hf;have HO:=λnq=>Hd (Offset_calls b Y1 r (m.prep 4 0).room (m.prep 4 0).least (m.prep 4 0).bytes c1 (w1.drewN nq) (hb.drewN nq));rw[<-HN.out] at HO;clear hY hb hf;go_wp2_with fail;refine (HO 0).out.mono ?_;rintro e w2 ⟨rfl,n2,rfl⟩;go_wp2_with fail;exact⟨rfl,⟨_,_,rfl⟩,HF.out.drewN _⟩
theorem PrependSOffsetT_calls(b Y:Nat)(r:BRest)(m:BM)(c:Array Value)(x:Int)(w:World)(h:BBm w b Y r m c)(hu:m.bytes.length<=1900000)(h0:-2147483648<=x)(h1:x<2147483648):
  Calls Tryz.prog 75 #[.pointer (some ⟨b,0,none⟩),.int .i32 x] w (BOut w b Y r (m.refer (x%4294967296).toNat)):=by
 have ha:algn 4:=by unfold algn;omega
 have HP:=Hd (Prep_m b Y r m 4 0 c w h ha hu);have hrm:=m.prep_room 4 0;have hle:=m.prep_le 4 0 ha;clear h;unfold BM.refer;have HR:=Hd hrm;clear hrm ha;obtain⟨n,hn⟩:=exA ((m.prep 4 0).bytes.length);rw[<-hn] at hle ⊢;have hn2:n<=1900004:=by omega
 have HN:=Hd hn;clear hn hle;by_cases hlt:(x%4294967296).toNat<=n
 ·rw[if_pos hlt];have hm:x%4294967296=x:=by omega
  have hxn:x<=(n:Int):=by omega
  have hoff:(x%4294967296).toNat=x.toNat:=by rw[hm]
  have HM:=Hd hoff;clear hlt hoff;have hx0:0<=x:=by omega
  go_enter Tryz.func75,Tryz.ntmps75;go_wp2_with fail;refine HP.out.mono ?_;rintro e w1 ⟨rfl,Y1,c1,hY,hb,hf⟩;have HB:=Hd hb;have HY:=Hd hY;have HF:=Hd hf;have HO:=λnq=>Hd (Offset_calls b Y1 r (m.prep 4 0).room (m.prep 4 0).least (m.prep 4 0).bytes c1 (w1.drewN nq) (hb.drewN nq));rw[<-HN.out] at HO;clear hY hb hf;go_wp2_with fail;refine (HO 0).out.mono ?_;rintro e w2 ⟨rfl,n2,rfl⟩;go_wp2_with fail;refine (HO n2).out.mono ?_;rintro e w3 ⟨rfl,n3,rfl⟩;go_wp2_with fail;refine (PlaceSOffsetT_ok b Y1 r (m.prep 4 0).room (m.prep 4 0).least (m.prep 4 0).bytes c1 _ (w1.drewN (n2+n3)) (HB.out.drewN _) (by have:=HR.out;omega)).mono ?_;rintro e w4 ⟨rfl,hb4,hf4⟩;have HB4:=Hd hb4;have HF4:=Hd hf4;clear hb4 hf4;go_wp2_with fail;go_end0
  refine⟨rfl,?_⟩;refine BBx.trans HY.out (HF.out.drewN (n2+n3)) (BBx.here ?_ HF4.out);obtain⟨c',hb⟩:=HB4.out;refine⟨c',?_⟩;show BB _ _ _ _ ((m.prep 4 0).room-(leB 4 (n-(x%4294967296).toNat+4)).length) _ (leB 4 (n-(x%4294967296).toNat+4)++_) _;rw[<-leI_nat,leI_length];refine hb.to (congrArg (·++_) (leI_congr 4 ?_));have:=HM.out
  omega
 ·rw[if_neg hlt];have hlt2:decide (x%4294967296<=(n:Int))=false:=by rw[decide_eq_false_iff_not];omega
  clear hlt;go_enter Tryz.func75,Tryz.ntmps75;go_wp2_with fail;refine HP.out.mono ?_;rintro e w1 ⟨rfl,Y1,c1,hY,hb,hf⟩;have HF:=Hd hf;have HO:=λnq=>Hd (Offset_calls b Y1 r (m.prep 4 0).room (m.prep 4 0).least (m.prep 4 0).bytes c1 (w1.drewN nq) (hb.drewN nq));rw[<-HN.out] at HO;clear hY hb hf;go_wp2_with fail;refine (HO 0).out.mono ?_;rintro e w2 ⟨rfl,n2,rfl⟩;go_wp2_with fail;exact⟨rfl,⟨_,_,rfl⟩,HF.out.drewN _⟩
end Go.Proofs.YtcfblkkpclfmaaaGreat
