/- The Builder's Prepend..: room, alignment, the number's bytes. -/
import Derived.Test.YtfplgggepoaajaaGreatPrep2
namespace Go.Proofs.YtfplgggepoaajaaGreat
open Go.RowKit
set_option linter.unusedVariables false
set_option linter.unusedSimpArgs false

/-- What a Builder's bytes are: how many are free in front, the greatest alignment, the bytes. -/
structure BM where
  room : Nat
  least : Nat
  bytes : List UInt8
def BM.pad (m : BM) (size add : Nat) : Nat := padB (m.bytes.length + add) size
def BM.prep (m : BM) (size add : Nat) : BM := ⟨prepRoom m.room m.bytes.length (m.pad size add + size + add) - m.pad size add, max m.least size, List.replicate (m.pad size add) 0 ++ m.bytes⟩
def BM.put (m : BM) (xs : List UInt8) : BM := ⟨m.room - xs.length, m.least, xs ++ m.bytes⟩
abbrev BBm (w : World) (b Y : Nat) (r : BRest) (m : BM) (c : Array Value) : Prop := BB w b Y r m.room m.least m.bytes c
abbrev BBy (w w' : World) (b Y : Nat) (r : BRest) (m : BM) : Prop := BBx w w' b Y r m.room m.least m.bytes
theorem newL_gt (L : Nat) : L < newL L := by unfold newL; split <;> omega
theorem roomL_gt (used need : Nat) : ∀ (f room : Nat), need + 1 ≤ f + room → need < roomL f room used need
  | 0, room, h => by show need < room; omega
  | f + 1, room, h => by
    show need < (if room ≤ need then _ else room)
    split
    · have := newL_gt (room + used)
      exact roomL_gt used need f _ (by omega)
    · omega
theorem prepRoom_gt (room used need : Nat) : need < prepRoom room used need := roomL_gt used need _ room (by omega)
theorem BM.prep_room (m : BM) (size add : Nat) : size + add < (m.prep size add).room := by
  have := prepRoom_gt m.room m.bytes.length (m.pad size add + size + add)
  show size + add < prepRoom _ _ _ - m.pad size add
  omega
def algn (s : Nat) : Prop := s = 1 ∨ s = 2 ∨ s = 4 ∨ s = 8 ∨ s = 16
theorem Prep_m (b Y : Nat) (r : BRest) (m : BM) (size add : Nat) (c : Array Value) (w : World) (h : BBm w b Y r m c) (hs : algn size) (hadd : m.bytes.length + add ≤ 1900000) :
    Calls Tryz.prog 64 #[.pointer (some ⟨b, 0, none⟩), .int .i64 size, .int .i64 add] w fun e w' => e = .returned (.tuple #[]) ∧ BBy w w' b Y r (m.prep size add) :=
  Prep_calls b Y r m.room m.least size add m.bytes c w h hs hadd

theorem PrependBool_calls (b Y : Nat) (r : BRest) (m : BM) (c : Array Value) (x : Bool) (w : World) (h : BBm w b Y r m c) (hu : m.bytes.length ≤ 1900000) :
    Calls Tryz.prog 77 #[.pointer (some ⟨b, 0, none⟩), .bool x] w fun e w' => e = .returned (.tuple #[]) ∧ BBy w w' b Y r ((m.prep 1 0).put (leI 1 (b01 x))) := by
  have HP := Lib.hid (Prep_m b Y r m 1 0 c w h (by unfold algn; omega) hu)
  clear h hu
  have hrm := m.prep_room 1 0
  have hxl : (leI 1 (b01 x)).length = 1 := by first | rfl | simp
  have HX := Lib.hid hxl
  have HR := Lib.hid hrm
  clear hxl hrm
  go_enter Tryz.func77, Tryz.ntmps77
  go_wp2_with fail
  refine HP.out.mono ?_
  rintro e w1 ⟨rfl, Y1, c1, hY, hb, hf⟩
  have HC := Lib.hid (PlaceBool_ok b Y1 r (m.prep 1 0).room (m.prep 1 0).least (m.prep 1 0).bytes c1 x w1 hb (by have := HR.out; omega))
  have HY := Lib.hid hY
  have HF := Lib.hid hf
  clear hY hb hf
  go_wp2_with fail
  refine HC.out.mono ?_
  rintro e w2 ⟨rfl, hb2, hf2⟩
  have HE := Lib.hid (BBx.trans HY.out HF.out (BBx.here hb2 hf2))
  clear hb2 hf2
  go_wp2_with fail
  go_end0
  refine ⟨rfl, ?_⟩
  show BBx _ _ _ _ _ ((m.prep 1 0).room - (leI 1 (b01 x)).length) _ _
  rw [HX.out]
  exact HE.out

theorem PrependUint8_calls (b Y : Nat) (r : BRest) (m : BM) (c : Array Value) (x : Int) (h0 : 0 ≤ x) (h1 : x < 256) (w : World) (h : BBm w b Y r m c) (hu : m.bytes.length ≤ 1900000) :
    Calls Tryz.prog 79 #[.pointer (some ⟨b, 0, none⟩), .int .u8 x] w fun e w' => e = .returned (.tuple #[]) ∧ BBy w w' b Y r ((m.prep 1 0).put (leI 1 x)) := by
  have HP := Lib.hid (Prep_m b Y r m 1 0 c w h (by unfold algn; omega) hu)
  clear h hu
  have hrm := m.prep_room 1 0
  have hxl : (leI 1 x).length = 1 := by first | rfl | simp
  have HX := Lib.hid hxl
  have HR := Lib.hid hrm
  clear hxl hrm
  go_enter Tryz.func79, Tryz.ntmps79
  go_wp2_with fail
  refine HP.out.mono ?_
  rintro e w1 ⟨rfl, Y1, c1, hY, hb, hf⟩
  have HC := Lib.hid (PlaceUint8_ok b Y1 r (m.prep 1 0).room (m.prep 1 0).least (m.prep 1 0).bytes c1 x h0 h1 w1 hb (by have := HR.out; omega))
  have HY := Lib.hid hY
  have HF := Lib.hid hf
  clear hY hb hf
  go_wp2_with fail
  refine HC.out.mono ?_
  rintro e w2 ⟨rfl, hb2, hf2⟩
  have HE := Lib.hid (BBx.trans HY.out HF.out (BBx.here hb2 hf2))
  clear hb2 hf2
  go_wp2_with fail
  go_end0
  refine ⟨rfl, ?_⟩
  show BBx _ _ _ _ _ ((m.prep 1 0).room - (leI 1 x).length) _ _
  rw [HX.out]
  exact HE.out

theorem PrependByte_calls (b Y : Nat) (r : BRest) (m : BM) (c : Array Value) (x : Int) (h0 : 0 ≤ x) (h1 : x < 256) (w : World) (h : BBm w b Y r m c) (hu : m.bytes.length ≤ 1900000) :
    Calls Tryz.prog 139 #[.pointer (some ⟨b, 0, none⟩), .int .u8 x] w fun e w' => e = .returned (.tuple #[]) ∧ BBy w w' b Y r ((m.prep 1 0).put (leI 1 x)) := by
  have HP := Lib.hid (Prep_m b Y r m 1 0 c w h (by unfold algn; omega) hu)
  clear h hu
  have hrm := m.prep_room 1 0
  have hxl : (leI 1 x).length = 1 := by first | rfl | simp
  have HX := Lib.hid hxl
  have HR := Lib.hid hrm
  clear hxl hrm
  go_enter Tryz.func139, Tryz.ntmps139
  go_wp2_with fail
  refine HP.out.mono ?_
  rintro e w1 ⟨rfl, Y1, c1, hY, hb, hf⟩
  have HC := Lib.hid (PlaceByte_ok b Y1 r (m.prep 1 0).room (m.prep 1 0).least (m.prep 1 0).bytes c1 x h0 h1 w1 hb (by have := HR.out; omega))
  have HY := Lib.hid hY
  have HF := Lib.hid hf
  clear hY hb hf
  go_wp2_with fail
  refine HC.out.mono ?_
  rintro e w2 ⟨rfl, hb2, hf2⟩
  have HE := Lib.hid (BBx.trans HY.out HF.out (BBx.here hb2 hf2))
  clear hb2 hf2
  go_wp2_with fail
  go_end0
  refine ⟨rfl, ?_⟩
  show BBx _ _ _ _ _ ((m.prep 1 0).room - (leI 1 x).length) _ _
  rw [HX.out]
  exact HE.out

theorem PrependInt8_calls (b Y : Nat) (r : BRest) (m : BM) (c : Array Value) (x : Int) (w : World) (h : BBm w b Y r m c) (hu : m.bytes.length ≤ 1900000) :
    Calls Tryz.prog 80 #[.pointer (some ⟨b, 0, none⟩), .int .i8 x] w fun e w' => e = .returned (.tuple #[]) ∧ BBy w w' b Y r ((m.prep 1 0).put (leI 1 x)) := by
  have HP := Lib.hid (Prep_m b Y r m 1 0 c w h (by unfold algn; omega) hu)
  clear h hu
  have hrm := m.prep_room 1 0
  have hxl : (leI 1 x).length = 1 := by first | rfl | simp
  have HX := Lib.hid hxl
  have HR := Lib.hid hrm
  clear hxl hrm
  go_enter Tryz.func80, Tryz.ntmps80
  go_wp2_with fail
  refine HP.out.mono ?_
  rintro e w1 ⟨rfl, Y1, c1, hY, hb, hf⟩
  have HC := Lib.hid (PlaceInt8_ok b Y1 r (m.prep 1 0).room (m.prep 1 0).least (m.prep 1 0).bytes c1 x w1 hb (by have := HR.out; omega))
  have HY := Lib.hid hY
  have HF := Lib.hid hf
  clear hY hb hf
  go_wp2_with fail
  refine HC.out.mono ?_
  rintro e w2 ⟨rfl, hb2, hf2⟩
  have HE := Lib.hid (BBx.trans HY.out HF.out (BBx.here hb2 hf2))
  clear hb2 hf2
  go_wp2_with fail
  go_end0
  refine ⟨rfl, ?_⟩
  show BBx _ _ _ _ _ ((m.prep 1 0).room - (leI 1 x).length) _ _
  rw [HX.out]
  exact HE.out

theorem PrependUint16_calls (b Y : Nat) (r : BRest) (m : BM) (c : Array Value) (x : Int) (w : World) (h : BBm w b Y r m c) (hu : m.bytes.length ≤ 1900000) :
    Calls Tryz.prog 81 #[.pointer (some ⟨b, 0, none⟩), .int .u16 x] w fun e w' => e = .returned (.tuple #[]) ∧ BBy w w' b Y r ((m.prep 2 0).put (leI 2 x)) := by
  have HP := Lib.hid (Prep_m b Y r m 2 0 c w h (by unfold algn; omega) hu)
  clear h hu
  have hrm := m.prep_room 2 0
  have hxl : (leI 2 x).length = 2 := by first | rfl | simp
  have HX := Lib.hid hxl
  have HR := Lib.hid hrm
  clear hxl hrm
  go_enter Tryz.func81, Tryz.ntmps81
  go_wp2_with fail
  refine HP.out.mono ?_
  rintro e w1 ⟨rfl, Y1, c1, hY, hb, hf⟩
  have HC := Lib.hid (PlaceUint16_ok b Y1 r (m.prep 2 0).room (m.prep 2 0).least (m.prep 2 0).bytes c1 x w1 hb (by have := HR.out; omega))
  have HY := Lib.hid hY
  have HF := Lib.hid hf
  clear hY hb hf
  go_wp2_with fail
  refine HC.out.mono ?_
  rintro e w2 ⟨rfl, hb2, hf2⟩
  have HE := Lib.hid (BBx.trans HY.out HF.out (BBx.here hb2 hf2))
  clear hb2 hf2
  go_wp2_with fail
  go_end0
  refine ⟨rfl, ?_⟩
  show BBx _ _ _ _ _ ((m.prep 2 0).room - (leI 2 x).length) _ _
  rw [HX.out]
  exact HE.out

theorem PrependInt16_calls (b Y : Nat) (r : BRest) (m : BM) (c : Array Value) (x : Int) (w : World) (h : BBm w b Y r m c) (hu : m.bytes.length ≤ 1900000) :
    Calls Tryz.prog 82 #[.pointer (some ⟨b, 0, none⟩), .int .i16 x] w fun e w' => e = .returned (.tuple #[]) ∧ BBy w w' b Y r ((m.prep 2 0).put (leI 2 x)) := by
  have HP := Lib.hid (Prep_m b Y r m 2 0 c w h (by unfold algn; omega) hu)
  clear h hu
  have hrm := m.prep_room 2 0
  have hxl : (leI 2 x).length = 2 := by first | rfl | simp
  have HX := Lib.hid hxl
  have HR := Lib.hid hrm
  clear hxl hrm
  go_enter Tryz.func82, Tryz.ntmps82
  go_wp2_with fail
  refine HP.out.mono ?_
  rintro e w1 ⟨rfl, Y1, c1, hY, hb, hf⟩
  have HC := Lib.hid (PlaceInt16_ok b Y1 r (m.prep 2 0).room (m.prep 2 0).least (m.prep 2 0).bytes c1 x w1 hb (by have := HR.out; omega))
  have HY := Lib.hid hY
  have HF := Lib.hid hf
  clear hY hb hf
  go_wp2_with fail
  refine HC.out.mono ?_
  rintro e w2 ⟨rfl, hb2, hf2⟩
  have HE := Lib.hid (BBx.trans HY.out HF.out (BBx.here hb2 hf2))
  clear hb2 hf2
  go_wp2_with fail
  go_end0
  refine ⟨rfl, ?_⟩
  show BBx _ _ _ _ _ ((m.prep 2 0).room - (leI 2 x).length) _ _
  rw [HX.out]
  exact HE.out

theorem PrependVOffsetT_calls (b Y : Nat) (r : BRest) (m : BM) (c : Array Value) (x : Int) (w : World) (h : BBm w b Y r m c) (hu : m.bytes.length ≤ 1900000) :
    Calls Tryz.prog 55 #[.pointer (some ⟨b, 0, none⟩), .int .u16 x] w fun e w' => e = .returned (.tuple #[]) ∧ BBy w w' b Y r ((m.prep 2 0).put (leI 2 x)) := by
  have HP := Lib.hid (Prep_m b Y r m 2 0 c w h (by unfold algn; omega) hu)
  clear h hu
  have hrm := m.prep_room 2 0
  have hxl : (leI 2 x).length = 2 := by first | rfl | simp
  have HX := Lib.hid hxl
  have HR := Lib.hid hrm
  clear hxl hrm
  go_enter Tryz.func55, Tryz.ntmps55
  go_wp2_with fail
  refine HP.out.mono ?_
  rintro e w1 ⟨rfl, Y1, c1, hY, hb, hf⟩
  have HC := Lib.hid (PlaceVOffsetT_ok b Y1 r (m.prep 2 0).room (m.prep 2 0).least (m.prep 2 0).bytes c1 x w1 hb (by have := HR.out; omega))
  have HY := Lib.hid hY
  have HF := Lib.hid hf
  clear hY hb hf
  go_wp2_with fail
  refine HC.out.mono ?_
  rintro e w2 ⟨rfl, hb2, hf2⟩
  have HE := Lib.hid (BBx.trans HY.out HF.out (BBx.here hb2 hf2))
  clear hb2 hf2
  go_wp2_with fail
  go_end0
  refine ⟨rfl, ?_⟩
  show BBx _ _ _ _ _ ((m.prep 2 0).room - (leI 2 x).length) _ _
  rw [HX.out]
  exact HE.out

theorem PrependUint32_calls (b Y : Nat) (r : BRest) (m : BM) (c : Array Value) (x : Int) (w : World) (h : BBm w b Y r m c) (hu : m.bytes.length ≤ 1900000) :
    Calls Tryz.prog 83 #[.pointer (some ⟨b, 0, none⟩), .int .u32 x] w fun e w' => e = .returned (.tuple #[]) ∧ BBy w w' b Y r ((m.prep 4 0).put (leI 4 x)) := by
  have HP := Lib.hid (Prep_m b Y r m 4 0 c w h (by unfold algn; omega) hu)
  clear h hu
  have hrm := m.prep_room 4 0
  have hxl : (leI 4 x).length = 4 := by first | rfl | simp
  have HX := Lib.hid hxl
  have HR := Lib.hid hrm
  clear hxl hrm
  go_enter Tryz.func83, Tryz.ntmps83
  go_wp2_with fail
  refine HP.out.mono ?_
  rintro e w1 ⟨rfl, Y1, c1, hY, hb, hf⟩
  have HC := Lib.hid (PlaceUint32_ok b Y1 r (m.prep 4 0).room (m.prep 4 0).least (m.prep 4 0).bytes c1 x w1 hb (by have := HR.out; omega))
  have HY := Lib.hid hY
  have HF := Lib.hid hf
  clear hY hb hf
  go_wp2_with fail
  refine HC.out.mono ?_
  rintro e w2 ⟨rfl, hb2, hf2⟩
  have HE := Lib.hid (BBx.trans HY.out HF.out (BBx.here hb2 hf2))
  clear hb2 hf2
  go_wp2_with fail
  go_end0
  refine ⟨rfl, ?_⟩
  show BBx _ _ _ _ _ ((m.prep 4 0).room - (leI 4 x).length) _ _
  rw [HX.out]
  exact HE.out

theorem PrependInt32_calls (b Y : Nat) (r : BRest) (m : BM) (c : Array Value) (x : Int) (w : World) (h : BBm w b Y r m c) (hu : m.bytes.length ≤ 1900000) :
    Calls Tryz.prog 84 #[.pointer (some ⟨b, 0, none⟩), .int .i32 x] w fun e w' => e = .returned (.tuple #[]) ∧ BBy w w' b Y r ((m.prep 4 0).put (leI 4 x)) := by
  have HP := Lib.hid (Prep_m b Y r m 4 0 c w h (by unfold algn; omega) hu)
  clear h hu
  have hrm := m.prep_room 4 0
  have hxl : (leI 4 x).length = 4 := by first | rfl | simp
  have HX := Lib.hid hxl
  have HR := Lib.hid hrm
  clear hxl hrm
  go_enter Tryz.func84, Tryz.ntmps84
  go_wp2_with fail
  refine HP.out.mono ?_
  rintro e w1 ⟨rfl, Y1, c1, hY, hb, hf⟩
  have HC := Lib.hid (PlaceInt32_ok b Y1 r (m.prep 4 0).room (m.prep 4 0).least (m.prep 4 0).bytes c1 x w1 hb (by have := HR.out; omega))
  have HY := Lib.hid hY
  have HF := Lib.hid hf
  clear hY hb hf
  go_wp2_with fail
  refine HC.out.mono ?_
  rintro e w2 ⟨rfl, hb2, hf2⟩
  have HE := Lib.hid (BBx.trans HY.out HF.out (BBx.here hb2 hf2))
  clear hb2 hf2
  go_wp2_with fail
  go_end0
  refine ⟨rfl, ?_⟩
  show BBx _ _ _ _ _ ((m.prep 4 0).room - (leI 4 x).length) _ _
  rw [HX.out]
  exact HE.out

theorem PrependUint64_calls (b Y : Nat) (r : BRest) (m : BM) (c : Array Value) (x : Int) (w : World) (h : BBm w b Y r m c) (hu : m.bytes.length ≤ 1900000) :
    Calls Tryz.prog 85 #[.pointer (some ⟨b, 0, none⟩), .int .u64 x] w fun e w' => e = .returned (.tuple #[]) ∧ BBy w w' b Y r ((m.prep 8 0).put (leI 8 x)) := by
  have HP := Lib.hid (Prep_m b Y r m 8 0 c w h (by unfold algn; omega) hu)
  clear h hu
  have hrm := m.prep_room 8 0
  have hxl : (leI 8 x).length = 8 := by first | rfl | simp
  have HX := Lib.hid hxl
  have HR := Lib.hid hrm
  clear hxl hrm
  go_enter Tryz.func85, Tryz.ntmps85
  go_wp2_with fail
  refine HP.out.mono ?_
  rintro e w1 ⟨rfl, Y1, c1, hY, hb, hf⟩
  have HC := Lib.hid (PlaceUint64_ok b Y1 r (m.prep 8 0).room (m.prep 8 0).least (m.prep 8 0).bytes c1 x w1 hb (by have := HR.out; omega))
  have HY := Lib.hid hY
  have HF := Lib.hid hf
  clear hY hb hf
  go_wp2_with fail
  refine HC.out.mono ?_
  rintro e w2 ⟨rfl, hb2, hf2⟩
  have HE := Lib.hid (BBx.trans HY.out HF.out (BBx.here hb2 hf2))
  clear hb2 hf2
  go_wp2_with fail
  go_end0
  refine ⟨rfl, ?_⟩
  show BBx _ _ _ _ _ ((m.prep 8 0).room - (leI 8 x).length) _ _
  rw [HX.out]
  exact HE.out

theorem PrependInt64_calls (b Y : Nat) (r : BRest) (m : BM) (c : Array Value) (x : Int) (w : World) (h : BBm w b Y r m c) (hu : m.bytes.length ≤ 1900000) :
    Calls Tryz.prog 86 #[.pointer (some ⟨b, 0, none⟩), .int .i64 x] w fun e w' => e = .returned (.tuple #[]) ∧ BBy w w' b Y r ((m.prep 8 0).put (leI 8 x)) := by
  have HP := Lib.hid (Prep_m b Y r m 8 0 c w h (by unfold algn; omega) hu)
  clear h hu
  have hrm := m.prep_room 8 0
  have hxl : (leI 8 x).length = 8 := by first | rfl | simp
  have HX := Lib.hid hxl
  have HR := Lib.hid hrm
  clear hxl hrm
  go_enter Tryz.func86, Tryz.ntmps86
  go_wp2_with fail
  refine HP.out.mono ?_
  rintro e w1 ⟨rfl, Y1, c1, hY, hb, hf⟩
  have HC := Lib.hid (PlaceInt64_ok b Y1 r (m.prep 8 0).room (m.prep 8 0).least (m.prep 8 0).bytes c1 x w1 hb (by have := HR.out; omega))
  have HY := Lib.hid hY
  have HF := Lib.hid hf
  clear hY hb hf
  go_wp2_with fail
  refine HC.out.mono ?_
  rintro e w2 ⟨rfl, hb2, hf2⟩
  have HE := Lib.hid (BBx.trans HY.out HF.out (BBx.here hb2 hf2))
  clear hb2 hf2
  go_wp2_with fail
  go_end0
  refine ⟨rfl, ?_⟩
  show BBx _ _ _ _ _ ((m.prep 8 0).room - (leI 8 x).length) _ _
  rw [HX.out]
  exact HE.out

theorem PrependFloat32_calls (b Y : Nat) (r : BRest) (m : BM) (c : Array Value) (x : Nat) (w : World) (h : BBm w b Y r m c) (hu : m.bytes.length ≤ 1900000) :
    Calls Tryz.prog 87 #[.pointer (some ⟨b, 0, none⟩), .float .f32 x] w fun e w' => e = .returned (.tuple #[]) ∧ BBy w w' b Y r ((m.prep 4 0).put (leI 4 x)) := by
  have HP := Lib.hid (Prep_m b Y r m 4 0 c w h (by unfold algn; omega) hu)
  clear h hu
  have hrm := m.prep_room 4 0
  have hxl : (leI 4 x).length = 4 := by first | rfl | simp
  have HX := Lib.hid hxl
  have HR := Lib.hid hrm
  clear hxl hrm
  go_enter Tryz.func87, Tryz.ntmps87
  go_wp2_with fail
  refine HP.out.mono ?_
  rintro e w1 ⟨rfl, Y1, c1, hY, hb, hf⟩
  have HC := Lib.hid (PlaceFloat32_ok b Y1 r (m.prep 4 0).room (m.prep 4 0).least (m.prep 4 0).bytes c1 x w1 hb (by have := HR.out; omega))
  have HY := Lib.hid hY
  have HF := Lib.hid hf
  clear hY hb hf
  go_wp2_with fail
  refine HC.out.mono ?_
  rintro e w2 ⟨rfl, hb2, hf2⟩
  have HE := Lib.hid (BBx.trans HY.out HF.out (BBx.here hb2 hf2))
  clear hb2 hf2
  go_wp2_with fail
  go_end0
  refine ⟨rfl, ?_⟩
  show BBx _ _ _ _ _ ((m.prep 4 0).room - (leI 4 x).length) _ _
  rw [HX.out]
  exact HE.out

theorem PrependFloat64_calls (b Y : Nat) (r : BRest) (m : BM) (c : Array Value) (x : Nat) (w : World) (h : BBm w b Y r m c) (hu : m.bytes.length ≤ 1900000) :
    Calls Tryz.prog 89 #[.pointer (some ⟨b, 0, none⟩), .float .f64 x] w fun e w' => e = .returned (.tuple #[]) ∧ BBy w w' b Y r ((m.prep 8 0).put (leI 8 x)) := by
  have HP := Lib.hid (Prep_m b Y r m 8 0 c w h (by unfold algn; omega) hu)
  clear h hu
  have hrm := m.prep_room 8 0
  have hxl : (leI 8 x).length = 8 := by first | rfl | simp
  have HX := Lib.hid hxl
  have HR := Lib.hid hrm
  clear hxl hrm
  go_enter Tryz.func89, Tryz.ntmps89
  go_wp2_with fail
  refine HP.out.mono ?_
  rintro e w1 ⟨rfl, Y1, c1, hY, hb, hf⟩
  have HC := Lib.hid (PlaceFloat64_ok b Y1 r (m.prep 8 0).room (m.prep 8 0).least (m.prep 8 0).bytes c1 x w1 hb (by have := HR.out; omega))
  have HY := Lib.hid hY
  have HF := Lib.hid hf
  clear hY hb hf
  go_wp2_with fail
  refine HC.out.mono ?_
  rintro e w2 ⟨rfl, hb2, hf2⟩
  have HE := Lib.hid (BBx.trans HY.out HF.out (BBx.here hb2 hf2))
  clear hb2 hf2
  go_wp2_with fail
  go_end0
  refine ⟨rfl, ?_⟩
  show BBx _ _ _ _ _ ((m.prep 8 0).room - (leI 8 x).length) _ _
  rw [HX.out]
  exact HE.out
end Go.Proofs.YtfplgggepoaajaaGreat
