/- The walks of the reference's numbers: how many bytes a kind has, the number at a place, the bytes of a number. -/
import Derived.Test.YtjfgippolckaeaaGreatProg
import Derived.Test.YtjfgippolckaeaaGreatBase
import Derived.Lib.Hide
import Derived.Lib.ConvBytes
namespace Go.Proofs.YtjfgippolckaeaaGreat
open Go.RowKit
set_option linter.unusedVariables false

theorem ret_i64 {a b : Int} (h : a = b) : Ending.returned (.int .i64 a) = .returned (.int .i64 b) := by rw [h]
theorem take_drop_snoc (s : ByteArray) (p i : Nat) (h : p + i < s.size) :
    (s.data.toList.drop p).take (i + 1) = (s.data.toList.drop p).take i ++ [s[p + i]] := by
  rw [List.take_succ_eq_append_getElem (by simp; omega)]
  simp; rfl

set_option maxHeartbeats 1000000 in
theorem NumSize_calls (k : Int) (w : World) :
    Calls Tryz.prog 17 #[.int .u8 k] w fun e w' => e = .returned (.int .i64 (numSize k)) ∧ w = w' := by
  go_enter Tryz.func17, Tryz.ntmps17
  go_wp2
  all_goals (go_ret; refine ⟨ret_i64 ?_, rfl⟩; unfold numSize; simp only [beq_iff_eq, beq_eq_false_iff_ne] at *; simp [*])

set_option maxHeartbeats 2000000 in
theorem NumAt_calls (s : ByteArray) (k : Int) (p : Nat) (w : World) (hs : s.size ≤ 1000000000) (hp : p < 4294967296) :
    Calls Tryz.prog 11 #[.string s, .int .u8 k, .int .u32 p] w fun e w' => e = .returned (.tuple #[.int .u64 (numAt s.data.toList k p).1, .int .u8 (numAt s.data.toList k p).2]) ∧ w = w' := by
  have hz := numSize_le k
  by_cases h0 : numSize k = 0
  · have hb : (((numSize k : Nat) : Int) == 0) = true := by rw [h0]; rfl
    have hfin : numAt s.data.toList k p = (0, 1) := by simp [numAt, h0]
    have HF := Lib.hid hfin; clear hfin h0
    go_enter Tryz.func11, Tryz.ntmps11
    go_wp2_with (first | (go_at_call 17; refine (NumSize_calls _ _).mono ?_; rintro e w' ⟨rfl, rfl⟩))
    go_ret2
    exact ⟨by rw [HF.out]; rfl, rfl⟩
  · have hb : (((numSize k : Nat) : Int) == 0) = false := by simp; omega
    by_cases h1 : s.size < p + numSize k
    · have hfin : numAt s.data.toList k p = (0, 1) := by simp [numAt]; omega
      have HF := Lib.hid hfin; clear hfin h0
      go_enter Tryz.func11, Tryz.ntmps11
      go_wp2_with (first | (go_at_call 17; refine (NumSize_calls _ _).mono ?_; rintro e w' ⟨rfl, rfl⟩))
      go_ret2
      exact ⟨by rw [HF.out]; rfl, rfl⟩
    · have hn : ∀ i, i ≤ numSize k → le ((s.data.toList.drop p).take i) < 2 ^ (8 * i) := fun i hi => by
        have := le_lt ((s.data.toList.drop p).take i)
        have e : ((s.data.toList.drop p).take i).length = i := by simp; omega
        rwa [e] at this
      have HN := Lib.hid hn; clear hn
      have hf1 : k = 0 → 1 < ((le ((s.data.toList.drop p).take (numSize k)) : Nat) : Int) → numAt s.data.toList k p = (0, 2) := by
        intro e0 e1
        unfold numAt; rw [if_neg (by simp; omega), if_pos ⟨e0, by omega⟩]
      have hf2 : ¬ (k = 0 ∧ 1 < ((le ((s.data.toList.drop p).take (numSize k)) : Nat) : Int)) → numAt s.data.toList k p = (le ((s.data.toList.drop p).take (numSize k)), 0) := by
        intro e0
        unfold numAt; rw [if_neg (by simp; omega), if_neg (by omega)]
      have HF1 := Lib.hid hf1; clear hf1
      have HF2 := Lib.hid hf2; clear hf2
      go_enter Tryz.func11, Tryz.ntmps11
      go_wp2_with (first | (go_at_call 17; refine (NumSize_calls _ _).mono ?_; rintro e w' ⟨rfl, rfl⟩))
      go_loop [9, 25] (fun n i => ∃ j : Nat, j ≤ numSize k ∧ i = .int .i64 j ∧ n = .int .u64 (le ((s.data.toList.drop p).take j))) (fun _ i => numSize k - (intOf i).toNat)
      case atStart => exact ⟨0, Nat.zero_le _, rfl, rfl⟩
      case round =>
        obtain ⟨j, hj, rfl, rfl⟩ := hrel
        by_cases hlt : j < numSize k
        · go_wp2
          have hlt2 : p + j < s.size := by omega
          refine ⟨⟨j + 1, by omega, by go_num, ?_⟩, by simp [intOf]; omega⟩
          rw [take_drop_snoc s p j hlt2, le_snoc]
          have hx := or_byte (le ((s.data.toList.drop p).take j)) s[p + j] j (HN.out j (by omega)) (by omega)
          have e : ((s.data.toList.drop p).take j).length = j := by simp; omega
          rw [e, ← hx, IntWalk.u64_in (s[p + j].toNat : Int) (by have := s[p + j].toNat_lt; omega)]
        · have hje : j = numSize k := by omega
          have HJ := Lib.hid hje; clear hje
          go_wp2
          · have h2 : 1 < ((le ((s.data.toList.drop p).take j) : Nat) : Int) := by assumption
            have h3 : k = 0 := by assumption
            go_ret2
            refine ⟨?_, rfl⟩
            have := HF1.out h3 (by rw [← HJ.out]; exact h2)
            rw [h3] at this; rw [this]; rfl
          · have h2 : ((le ((s.data.toList.drop p).take j) : Nat) : Int) ≤ 1 := by assumption
            have h3 : k = 0 := by assumption
            go_ret2
            refine ⟨?_, rfl⟩
            have := HF2.out (by rw [← HJ.out]; omega)
            have hj2 := HJ.out
            rw [h3] at this hj2; rw [this, ← hj2]; rfl
          · have h3 : ¬ k = 0 := by assumption
            go_ret2
            refine ⟨?_, rfl⟩
            rw [HF2.out (by omega), ← HJ.out]; rfl

end Go.Proofs.YtjfgippolckaeaaGreat
