/- impl.place and Pad without room: they panic; EndObject where no object was ever begun. -/
import Derived.Test.YtfplgggepoaajaaGreatWvtN
import Derived.Test.YtfplgggepoaajaaGreatKinds
namespace Go.Proofs.YtfplgggepoaajaaGreat
open Go.RowKit
set_option linter.unusedVariables false
set_option linter.unusedSimpArgs false

theorem placeD_0 (b : Nat) (F : List Nat) (st : BSt) (num : Nat) (w : World) (h : BRep w b F st) (hr : st.m.room < 1) (hn : num < 2 ^ 8) (hn1 : num ≤ 1) :
    Calls Tryz.prog 65 #[.pointer (some ⟨b, 0, none⟩), .int .u8 0, .int .u64 num] w (BRes w b F none) := by
  have hc := fun x : Bool => h.liftF (fun Y r c hb => PlaceBool_dies b Y r _ _ _ c x w hb hr)
  have HC := Lib.hid hc
  clear hc h hn
  rcases (show num = 0 ∨ num = 1 by omega) with rfl | rfl
  all_goals
    go_enter Tryz.func65, Tryz.ntmps65
    go_wp2_with (first | (go_at_call 78; go_in))
    refine (HC.out _).mono ?_
    rintro e w1 ⟨⟨u, v, rfl⟩, hf⟩
    exact ⟨rfl, ⟨u, v, rfl⟩, hf⟩

theorem placeD_1 (b : Nat) (F : List Nat) (st : BSt) (num : Nat) (w : World) (h : BRep w b F st) (hr : st.m.room < 1) (hn : num < 2 ^ 8) :
    Calls Tryz.prog 65 #[.pointer (some ⟨b, 0, none⟩), .int .u8 1, .int .u64 num] w (BRes w b F none) := by
  have hc := fun x : Int => h.liftF (fun Y r c hb => PlaceUint8_dies b Y r _ _ _ c x w hb hr)
  have HC := Lib.hid hc
  clear hc h
  go_enter Tryz.func65, Tryz.ntmps65
  go_wp2_with fail
  · refine (HC.out _).mono ?_
    rintro e w1 ⟨⟨u, v, rfl⟩, hf⟩
    exact ⟨rfl, ⟨u, v, rfl⟩, hf⟩

theorem placeD_2 (b : Nat) (F : List Nat) (st : BSt) (num : Nat) (w : World) (h : BRep w b F st) (hr : st.m.room < 1) (hn : num < 2 ^ 8) :
    Calls Tryz.prog 65 #[.pointer (some ⟨b, 0, none⟩), .int .u8 2, .int .u64 num] w (BRes w b F none) := by
  have hc := fun x : Int => h.liftF (fun Y r c hb => PlaceInt8_dies b Y r _ _ _ c x w hb hr)
  have HC := Lib.hid hc
  clear hc h
  go_enter Tryz.func65, Tryz.ntmps65
  go_wp2_with fail
  · refine (HC.out _).mono ?_
    rintro e w1 ⟨⟨u, v, rfl⟩, hf⟩
    exact ⟨rfl, ⟨u, v, rfl⟩, hf⟩

theorem placeD_3 (b : Nat) (F : List Nat) (st : BSt) (num : Nat) (w : World) (h : BRep w b F st) (hr : st.m.room < 2) (hn : num < 2 ^ 16) :
    Calls Tryz.prog 65 #[.pointer (some ⟨b, 0, none⟩), .int .u8 3, .int .u64 num] w (BRes w b F none) := by
  have hc := fun x : Int => h.liftF (fun Y r c hb => PlaceUint16_dies b Y r _ _ _ c x w hb hr)
  have HC := Lib.hid hc
  clear hc h
  go_enter Tryz.func65, Tryz.ntmps65
  go_wp2_with fail
  · refine (HC.out _).mono ?_
    rintro e w1 ⟨⟨u, v, rfl⟩, hf⟩
    exact ⟨rfl, ⟨u, v, rfl⟩, hf⟩

theorem placeD_4 (b : Nat) (F : List Nat) (st : BSt) (num : Nat) (w : World) (h : BRep w b F st) (hr : st.m.room < 2) (hn : num < 2 ^ 16) :
    Calls Tryz.prog 65 #[.pointer (some ⟨b, 0, none⟩), .int .u8 4, .int .u64 num] w (BRes w b F none) := by
  have hc := fun x : Int => h.liftF (fun Y r c hb => PlaceInt16_dies b Y r _ _ _ c x w hb hr)
  have HC := Lib.hid hc
  clear hc h
  go_enter Tryz.func65, Tryz.ntmps65
  go_wp2_with fail
  · refine (HC.out _).mono ?_
    rintro e w1 ⟨⟨u, v, rfl⟩, hf⟩
    exact ⟨rfl, ⟨u, v, rfl⟩, hf⟩

theorem placeD_5 (b : Nat) (F : List Nat) (st : BSt) (num : Nat) (w : World) (h : BRep w b F st) (hr : st.m.room < 4) (hn : num < 2 ^ 32) :
    Calls Tryz.prog 65 #[.pointer (some ⟨b, 0, none⟩), .int .u8 5, .int .u64 num] w (BRes w b F none) := by
  have hc := fun x : Int => h.liftF (fun Y r c hb => PlaceUint32_dies b Y r _ _ _ c x w hb hr)
  have HC := Lib.hid hc
  clear hc h
  go_enter Tryz.func65, Tryz.ntmps65
  go_wp2_with fail
  · refine (HC.out _).mono ?_
    rintro e w1 ⟨⟨u, v, rfl⟩, hf⟩
    exact ⟨rfl, ⟨u, v, rfl⟩, hf⟩

theorem placeD_6 (b : Nat) (F : List Nat) (st : BSt) (num : Nat) (w : World) (h : BRep w b F st) (hr : st.m.room < 4) (hn : num < 2 ^ 32) :
    Calls Tryz.prog 65 #[.pointer (some ⟨b, 0, none⟩), .int .u8 6, .int .u64 num] w (BRes w b F none) := by
  have hc := fun x : Int => h.liftF (fun Y r c hb => PlaceInt32_dies b Y r _ _ _ c x w hb hr)
  have HC := Lib.hid hc
  clear hc h
  go_enter Tryz.func65, Tryz.ntmps65
  go_wp2_with fail
  · refine (HC.out _).mono ?_
    rintro e w1 ⟨⟨u, v, rfl⟩, hf⟩
    exact ⟨rfl, ⟨u, v, rfl⟩, hf⟩

theorem placeD_7 (b : Nat) (F : List Nat) (st : BSt) (num : Nat) (w : World) (h : BRep w b F st) (hr : st.m.room < 8) (hn : num < 2 ^ 64) :
    Calls Tryz.prog 65 #[.pointer (some ⟨b, 0, none⟩), .int .u8 7, .int .u64 num] w (BRes w b F none) := by
  have hc := fun x : Int => h.liftF (fun Y r c hb => PlaceUint64_dies b Y r _ _ _ c x w hb hr)
  have HC := Lib.hid hc
  clear hc h
  go_enter Tryz.func65, Tryz.ntmps65
  go_wp2_with fail
  · refine (HC.out _).mono ?_
    rintro e w1 ⟨⟨u, v, rfl⟩, hf⟩
    exact ⟨rfl, ⟨u, v, rfl⟩, hf⟩

theorem placeD_8 (b : Nat) (F : List Nat) (st : BSt) (num : Nat) (w : World) (h : BRep w b F st) (hr : st.m.room < 8) (hn : num < 2 ^ 64) :
    Calls Tryz.prog 65 #[.pointer (some ⟨b, 0, none⟩), .int .u8 8, .int .u64 num] w (BRes w b F none) := by
  have hc := fun x : Int => h.liftF (fun Y r c hb => PlaceInt64_dies b Y r _ _ _ c x w hb hr)
  have HC := Lib.hid hc
  clear hc h
  go_enter Tryz.func65, Tryz.ntmps65
  go_wp2_with fail
  · refine (HC.out _).mono ?_
    rintro e w1 ⟨⟨u, v, rfl⟩, hf⟩
    exact ⟨rfl, ⟨u, v, rfl⟩, hf⟩

theorem placeD_9 (b : Nat) (F : List Nat) (st : BSt) (num : Nat) (w : World) (h : BRep w b F st) (hr : st.m.room < 4) (hn : num < 2 ^ 32) :
    Calls Tryz.prog 65 #[.pointer (some ⟨b, 0, none⟩), .int .u8 9, .int .u64 num] w (BRes w b F none) := by
  have hc := fun (x : Nat) => h.liftF (fun Y r c hb => PlaceFloat32_dies b Y r _ _ _ c x w hb hr)
  have HC := Lib.hid hc
  have hf32 := run_f32frm
  have hf64 := run_f64frm
  clear hc h
  go_enter Tryz.func65, Tryz.ntmps65
  go_wp2_with fail
  · refine (HC.out _).mono ?_
    rintro e w1 ⟨⟨u, v, rfl⟩, hf⟩
    exact ⟨rfl, ⟨u, v, rfl⟩, hf⟩

theorem placeD_10 (b : Nat) (F : List Nat) (st : BSt) (num : Nat) (w : World) (h : BRep w b F st) (hr : st.m.room < 8) (hn : num < 2 ^ 64) :
    Calls Tryz.prog 65 #[.pointer (some ⟨b, 0, none⟩), .int .u8 10, .int .u64 num] w (BRes w b F none) := by
  have hc := fun (x : Nat) => h.liftF (fun Y r c hb => PlaceFloat64_dies b Y r _ _ _ c x w hb hr)
  have HC := Lib.hid hc
  have hf32 := run_f32frm
  have hf64 := run_f64frm
  clear hc h
  go_enter Tryz.func65, Tryz.ntmps65
  go_wp2_with fail
  · refine (HC.out _).mono ?_
    rintro e w1 ⟨⟨u, v, rfl⟩, hf⟩
    exact ⟨rfl, ⟨u, v, rfl⟩, hf⟩

theorem place_any (b : Nat) (F : List Nat) (st : BSt) (k : Int) (num : Nat) (w : World) (h : BRep w b F st) (hr : Right k num) :
    Calls Tryz.prog 65 #[.pointer (some ⟨b, 0, none⟩), .int .u8 k, .int .u64 num] w (BRes w b F (unitRes (if numSize k ≤ st.m.room then some { st with m := st.m.put (numB k num) } else none))) := by
  obtain ⟨h0, h1, h2, h3⟩ := hr
  have : k = 0 ∨ k = 1 ∨ k = 2 ∨ k = 3 ∨ k = 4 ∨ k = 5 ∨ k = 6 ∨ k = 7 ∨ k = 8 ∨ k = 9 ∨ k = 10 := by omega
  rcases this with rfl | rfl | rfl | rfl | rfl | rfl | rfl | rfl | rfl | rfl | rfl
  · by_cases hu : numSize (0 : Int) ≤ st.m.room
    · rw [if_pos hu]; exact place_0 b F st num w h hu h3 (h2 rfl)
    · rw [if_neg hu]; exact placeD_0 b F st num w h (Nat.lt_of_not_le hu) h3 (h2 rfl)
  · by_cases hu : numSize (1 : Int) ≤ st.m.room
    · rw [if_pos hu]; exact place_1 b F st num w h hu h3
    · rw [if_neg hu]; exact placeD_1 b F st num w h (Nat.lt_of_not_le hu) h3
  · by_cases hu : numSize (2 : Int) ≤ st.m.room
    · rw [if_pos hu]; exact place_2 b F st num w h hu h3
    · rw [if_neg hu]; exact placeD_2 b F st num w h (Nat.lt_of_not_le hu) h3
  · by_cases hu : numSize (3 : Int) ≤ st.m.room
    · rw [if_pos hu]; exact place_3 b F st num w h hu h3
    · rw [if_neg hu]; exact placeD_3 b F st num w h (Nat.lt_of_not_le hu) h3
  · by_cases hu : numSize (4 : Int) ≤ st.m.room
    · rw [if_pos hu]; exact place_4 b F st num w h hu h3
    · rw [if_neg hu]; exact placeD_4 b F st num w h (Nat.lt_of_not_le hu) h3
  · by_cases hu : numSize (5 : Int) ≤ st.m.room
    · rw [if_pos hu]; exact place_5 b F st num w h hu h3
    · rw [if_neg hu]; exact placeD_5 b F st num w h (Nat.lt_of_not_le hu) h3
  · by_cases hu : numSize (6 : Int) ≤ st.m.room
    · rw [if_pos hu]; exact place_6 b F st num w h hu h3
    · rw [if_neg hu]; exact placeD_6 b F st num w h (Nat.lt_of_not_le hu) h3
  · by_cases hu : numSize (7 : Int) ≤ st.m.room
    · rw [if_pos hu]; exact place_7 b F st num w h hu h3
    · rw [if_neg hu]; exact placeD_7 b F st num w h (Nat.lt_of_not_le hu) h3
  · by_cases hu : numSize (8 : Int) ≤ st.m.room
    · rw [if_pos hu]; exact place_8 b F st num w h hu h3
    · rw [if_neg hu]; exact placeD_8 b F st num w h (Nat.lt_of_not_le hu) h3
  · by_cases hu : numSize (9 : Int) ≤ st.m.room
    · rw [if_pos hu]; exact place_9 b F st num w h hu h3
    · rw [if_neg hu]; exact placeD_9 b F st num w h (Nat.lt_of_not_le hu) h3
  · by_cases hu : numSize (10 : Int) ≤ st.m.room
    · rw [if_pos hu]; exact place_10 b F st num w h hu h3
    · rw [if_neg hu]; exact placeD_10 b F st num w h (Nat.lt_of_not_le hu) h3
set_option maxHeartbeats 2000000 in
theorem Pad_dies (b Y : Nat) (r : BRest) (room least n : Nat) (bytes : List UInt8) (c : Array Value) (w : World) (h : BB w b Y r room least bytes c) (hn : room < n) (hl : n ≤ 4000000) :
    Calls Tryz.prog 66 #[.pointer (some ⟨b, 0, none⟩), .int .i64 n] w (Falls2 (fun k => k = b ∨ k = Y) w) := by
  have hlim := h.lim
  have HB := Lib.hid h
  clear h
  go_enter Tryz.func66, Tryz.ntmps66
  go_wp2_with fail
  go_loopw [4] (fun iv wr => ∃ j : Nat, j ≤ room ∧ iv = .int .i64 j ∧ (∃ c', BB wr b Y r (room - j) least (List.replicate j 0 ++ bytes) c') ∧ Fr (fun k => k = b ∨ k = Y) w wr) (fun iv _ => n - (intOf iv).toNat)
  case atStart => exact ⟨0, Nat.zero_le _, rfl, ⟨c, HB.out⟩, Fr.refl _ _⟩
  case round =>
    obtain ⟨j, hj, rfl, ⟨c', hbb⟩, hfr⟩ := hrel
    have HBB := Lib.hid hbb
    have HFR := Lib.hid hfr
    clear hbb hfr
    by_cases hlt : j < room
    · go_wp2_with fail
      refine (PlaceByte_ok b Y r (room - j) least _ c' 0 (by decide) (by decide) _ HBB.out (by omega)).mono ?_
      rintro e w' ⟨rfl, ⟨c2, hb2⟩, hf2⟩
      have HB2 := Lib.hid hb2
      have HF2 := Lib.hid (HFR.out.trans hf2)
      clear hb2 hf2
      go_wp2_with fail
      go_roundw
      case rel =>
        refine ⟨j + 1, by omega, by go_num, ⟨c2, ?_⟩, HF2.out⟩
        have := HB2.out
        rw [leI_zero] at this
        rw [← replicate_snoc, show room - (j + 1) = room - j - 1 by omega]
        exact this
      case measure => simp [intOf]; omega
    · go_wp2_with fail
      refine (PlaceByte_dies b Y r (room - j) least _ c' 0 _ HBB.out (by omega)).mono ?_
      rintro e w' ⟨⟨u, v, rfl⟩, hf⟩
      exact ⟨rfl, ⟨u, v, rfl⟩, HFR.out.trans hf⟩
theorem Pad_any (b : Nat) (F : List Nat) (st : BSt) (n : Nat) (w : World) (h : BRep w b F st) (hn : n ≤ 1000) :
    Calls Tryz.prog 66 #[.pointer (some ⟨b, 0, none⟩), .int .i64 n] w (BRes w b F (unitRes (if n ≤ st.m.room then some { st with m := st.m.put (List.replicate n 0) } else none))) := by
  by_cases hu : n ≤ st.m.room
  · rw [if_pos hu]
    exact h.liftP (z := n) (by simp) fun Y r c hb => Pad_calls b Y r st.m.room st.m.least n st.m.bytes c w hb hu
  · rw [if_neg hu]
    exact h.liftF fun Y r c hb => Pad_dies b Y r _ _ n _ c w hb (by omega) (by omega)
theorem EndObject_any (b : Nat) (F : List Nat) (st : BSt) (w : World) (h : BRep w b F st) (hi : BInv st) (hu : st.m.bytes.length ≤ 1700000) :
    Calls Tryz.prog 49 #[.pointer (some ⟨b, 0, none⟩)] w (BRes w b F (numRes st.endObj)) := by
  cases hv : st.vtab with
  | some l => exact EndObject_calls b F st w h hi (fun _ => ⟨l, hv⟩) hu
  | none =>
    cases hn : st.nested with
    | false => exact EndObject_calls b F st w h hi (fun hh => by rw [hn] at hh; cases hh) hu
    | true =>
      have HN := Lib.hid (assertNested_calls b F st w h)
      have e : numRes st.endObj = some (.int .u32 st.vt1.bytes.length, { st.writeVt with nested := false }) := by unfold BSt.endObj numRes; rw [hn]; rfl
      rw [e]
      rw [hn] at HN
      have HW := Lib.hid (WriteVtable_none b F st w h hi hv hu)
      obtain ⟨o, ho⟩ : ∃ o, o = st.vt1.bytes.length := ⟨_, rfl⟩
      rw [← ho] at HW ⊢
      clear h hi hv hu hn e ho
      go_enter Tryz.func49, Tryz.ntmps49
      go_wp2_with fail
      refine HN.out.mono ?_
      rintro e w' ⟨rfl, rfl⟩
      go_wp2_with fail
      refine HW.out.mono ?_
      rintro e w1 ⟨rfl, F1, hb1, ha1⟩
      have c6 := hb1.cells.1
      have f6 := hb1.frozen 6
      have h6 := hb1.set6 false
      have HB := Lib.hid h6.1
      have HA := Lib.hid (ha1.trans h6.2)
      clear hb1 ha1 h6
      go_wp2_with fail
      go_ret
      exact ⟨rfl, F1, HB.out, HA.out⟩
end Go.Proofs.YtfplgggepoaajaaGreat
