/- The Builder's Head, Offset, Pad and Prep. -/
import Derived.Test.YtfplgggepoaajaaGreatGrow
namespace Go.Proofs.YtfplgggepoaajaaGreat
open Go.RowKit
set_option linter.unusedVariables false
set_option linter.unusedSimpArgs false

/-- Behind some steps: the Builder, its bytes where they were or in a new block; nothing else has turned. -/
def BBx (w w' : World) (b Y : Nat) (r : BRest) (room least : Nat) (bytes : List UInt8) : Prop :=
  ∃ Y' c', (Y' = Y ∨ w.heap.size ≤ Y') ∧ BB w' b Y' r room least bytes c' ∧ Fr (fun k => k = b ∨ k = Y) w w'
theorem BBx.here {w w' : World} {b Y : Nat} {r : BRest} {room least : Nat} {bytes : List UInt8} (h : ∃ c', BB w' b Y r room least bytes c') (hf : Fr (fun k => k = b ∨ k = Y) w w') : BBx w w' b Y r room least bytes := by
  obtain ⟨c', h⟩ := h
  exact ⟨Y, c', .inl rfl, h, hf⟩
theorem BBx.trans {w w1 w2 : World} {b Y Y1 : Nat} {r' : BRest} {room' least' : Nat} {bytes' : List UInt8} (hY : Y1 = Y ∨ w.heap.size ≤ Y1) (hf : Fr (fun k => k = b ∨ k = Y) w w1)
    (h : BBx w1 w2 b Y1 r' room' least' bytes') : BBx w w2 b Y r' room' least' bytes' := by
  obtain ⟨Y2, c2, hY2, hb, hf2⟩ := h
  have hs := hf.size
  refine ⟨Y2, c2, ?_, hb, hf.trans2 hf2 ?_⟩
  · rcases hY2 with rfl | h
    · exact hY
    · right; omega
  · rintro i hi (rfl | rfl)
    · exact .inl rfl
    · rcases hY with rfl | h
      · exact .inr rfl
      · omega

theorem ret_u32 {a b : Int} (h : a = b) : Ending.returned (.int .u32 a) = .returned (.int .u32 b) := by rw [h]
theorem quiet_same2 {P : Program} {f : FuncId} {args : Array Value} {w : World} {n : Nat} {v : Value} (h : Calls P f args (w.drewN n) fun e w' => e = .returned v ∧ w.drewN n = w') :
    Calls P f args (w.drewN n) fun e w'' => e = .returned v ∧ ∃ m, w'' = w.drewN m := h.mono fun _ _ h => ⟨h.1, n, h.2.symm⟩
theorem Head_calls (b Y : Nat) (r : BRest) (room least : Nat) (bytes : List UInt8) (c : Array Value) (w : World) (h : BB w b Y r room least bytes c) :
    Calls Tryz.prog 33 #[.pointer (some ⟨b, 0, none⟩)] w fun e w' => e = .returned (.int .u32 room) ∧ w = w' := by
  have c5 : w.cell? ⟨b, 5, none⟩ = some (.int .u32 room) := by rw [cell_of h.hb]; rfl
  clear h
  go_enter Tryz.func33, Tryz.ntmps33
  go_wp2_with fail
  go_ret
  exact ⟨rfl, rfl⟩
theorem Offset_calls (b Y : Nat) (r : BRest) (room least : Nat) (bytes : List UInt8) (c : Array Value) (w : World) (h : BB w b Y r room least bytes c) :
    Calls Tryz.prog 32 #[.pointer (some ⟨b, 0, none⟩)] w fun e w' => e = .returned (.int .u32 bytes.length) ∧ ∃ n, w' = w.drewN n := by
  have hlim := h.lim
  have c0 : w.cell? ⟨b, 0, none⟩ = some (.slice (some ⟨Y, 0, none⟩) (room + bytes.length) c.size) := by rw [cell_of h.hb]; rfl
  have c5 : w.cell? ⟨b, 5, none⟩ = some (.int .u32 room) := by rw [cell_of h.hb]; rfl
  clear h
  go_enter Tryz.func32, Tryz.ntmps32
  go_wp2_with fail
  go_quiet (fail)
  go_wp2_with fail
  go_ret
  exact ⟨ret_u32 (by omega), nq, rfl⟩

theorem replicate_snoc (j : Nat) (x : UInt8) (bytes : List UInt8) : x :: (List.replicate j x ++ bytes) = List.replicate (j + 1) x ++ bytes := by
  rw [List.replicate_succ]; rfl
theorem leI_zero : leI 1 0 = [0] := by decide
set_option maxHeartbeats 2000000 in
theorem Pad_calls (b Y : Nat) (r : BRest) (room least n : Nat) (bytes : List UInt8) (c : Array Value) (w : World) (h : BB w b Y r room least bytes c) (hn : n ≤ room) :
    Calls Tryz.prog 66 #[.pointer (some ⟨b, 0, none⟩), .int .i64 n] w fun e w' => e = .returned (.tuple #[]) ∧ (∃ c', BB w' b Y r (room - n) least (List.replicate n 0 ++ bytes) c') ∧ Fr (fun k => k = b ∨ k = Y) w w' := by
  have hlim := h.lim
  have HB := Lib.hid h
  clear h
  go_enter Tryz.func66, Tryz.ntmps66
  go_wp2_with fail
  go_loopw [4] (fun iv wr => ∃ j : Nat, j ≤ n ∧ iv = .int .i64 j ∧ (∃ c', BB wr b Y r (room - j) least (List.replicate j 0 ++ bytes) c') ∧ Fr (fun k => k = b ∨ k = Y) w wr) (fun iv _ => n - (intOf iv).toNat)
  case atStart => exact ⟨0, Nat.zero_le _, rfl, ⟨c, HB.out⟩, Fr.refl _ _⟩
  case round =>
    obtain ⟨j, hj, rfl, ⟨c', hbb⟩, hfr⟩ := hrel
    have HBB := Lib.hid hbb
    have HFR := Lib.hid hfr
    clear hbb hfr
    by_cases hlt : j < n
    · go_wp2_with fail
      refine (PlaceByte_ok b Y r (room - j) least _ c' 0 (by decide) (by decide) _ HBB.out (by omega)).mono ?_
      rintro e w' ⟨rfl, ⟨c2, hb2⟩, hf2⟩
      have HB2 := Lib.hid hb2
      have HF2 := Lib.hid (HFR.out.trans hf2)
      clear hb2 hf2
      go_wp2_with fail
      go_roundw
      case rel =>
        refine ⟨j + 1, by omega, by go_num, ⟨c2, ?_⟩, HF2.out⟩
        have := HB2.out
        rw [leI_zero] at this
        rw [← replicate_snoc, show room - (j + 1) = room - j - 1 by omega]
        exact this
      case measure => simp [intOf]; omega
    · obtain rfl : j = n := by omega
      go_wp2_with fail
      go_end0
      exact ⟨rfl, ⟨c', HBB.out⟩, HFR.out⟩

def roomL : Nat → Nat → Nat → Nat → Nat
  | 0, room, _, _ => room
  | f + 1, room, used, need => if room ≤ need then roomL f (newL (room + used) - used) used need else room
/-- The room that Prep makes. -/
def prepRoom (room used need : Nat) : Nat := roomL (need + 2) room used need

end Go.Proofs.YtfplgggepoaajaaGreat
