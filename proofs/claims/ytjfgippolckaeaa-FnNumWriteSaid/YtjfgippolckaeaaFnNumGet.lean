/- FnNumGet: for every kind of numbers and every string of bytes the law returns true, and nothing that was there turns. -/
import Derived.Test.YtjfgippolckaeaaTop
namespace Go.Proofs.Ytjfgippolckaeaa
open Go.RowKit
set_option linter.unusedVariables false
set_option linter.unusedSimpArgs false

theorem numVal_small (k : Int) (n : Nat) (h : ¬ (k = 0 ∧ 1 < n)) : numVal k n = n := by
  unfold numVal; split
  · split <;> omega
  · rfl

set_option maxHeartbeats 4000000 in
theorem FnNumGet_walk (k : Int) (s : ByteArray) (w0 : (Lit.int .u8 k).wf = true) (w1 : s.size ≤ maxLen) (w : World) :
    Calls Try.prog 3 #[.int .u8 k, .string s] w fun e w' => e = .returned (.bool true) ∧ Below w.heap.size w w' := by
  unfold maxLen at w1
  have hz := numSize_le k
  clear w0
  by_cases h1 : 2147483647 < s.size
  · go_enter Try.func3, Try.ntmps3
    go_wp2_with fail
    go_ret
    exact ⟨rfl, Below.refl _ _⟩
  · by_cases h2 : numSize k = 0
    · have hb : (!decide (0 < numSize k)) = true := by simp [h2]
      have hd : decide (0 < numSize k) = false := by simp [h2]
      clear h2
      go_enter Try.func3, Try.ntmps3
      go_wp2_with (first | (go_at_call 6; refine (tableKind_calls _ _).mono ?_; rintro e w' ⟨rfl, rfl⟩) | (go_at_call 7; refine (tableAwake_calls _).mono ?_; rintro e w' ⟨rfl, hf⟩))
      go_ret
      exact ⟨rfl, hf.below⟩
    · have hd : decide (0 < numSize k) = true := by simp; omega
      by_cases h3 : 1000 < s.size
      · go_enter Try.func3, Try.ntmps3
        go_wp2_with (first | (go_at_call 6; refine (tableKind_calls _ _).mono ?_; rintro e w' ⟨rfl, rfl⟩) | (go_at_call 7; refine (tableAwake_calls _).mono ?_; rintro e w' ⟨rfl, hf⟩))
        go_ret
        exact ⟨rfl, hf.below⟩
      · have hs : s.size ≤ 1000000000 := by omega
        by_cases h4 : s.size < numSize k
        · have hv : numAt s.data.toList k 0 = (0, 1) := by simp [numAt]; omega
          have HA := Lib.hid (fun w => NumAt_calls s k 0 w hs (by omega))
          rw [hv] at HA
          have HG := Lib.hid (fun w => NumGet_dies k s w hs (.inr h4))
          clear hv h4 h2
          go_enter Try.func3, Try.ntmps3
          go_wp2_with (first | (go_at_call 6; refine (tableKind_calls _ _).mono ?_; rintro e w' ⟨rfl, rfl⟩) | (go_at_call 8; refine (HA.out _).mono ?_; rintro e w' ⟨rfl, rfl⟩) | (go_at_call 9; refine (HG.out _).mono ?_; rintro e w2 ⟨rfl, hf2⟩) | (go_at_call 7; refine (tableAwake_calls _).mono ?_; rintro e w3 ⟨rfl, hf3⟩))
          go_ret
          exact ⟨rfl, Fr0.below (hf2.trans2 hf3 (fun _ _ x => x))⟩
        · by_cases h5 : k = 0 ∧ 1 < le (s.data.toList.take (numSize k))
          · have hv : numAt s.data.toList k 0 = (0, 2) := by
              unfold numAt; rw [if_neg (by simp; omega), List.drop_zero, if_pos h5]
            have HA := Lib.hid (fun w => NumAt_calls s k 0 w hs (by omega))
            rw [hv] at HA
            clear hv h5 h2 h4
            go_enter Try.func3, Try.ntmps3
            go_wp2_with (first | (go_at_call 6; refine (tableKind_calls _ _).mono ?_; rintro e w' ⟨rfl, rfl⟩) | (go_at_call 8; refine (HA.out _).mono ?_; rintro e w' ⟨rfl, rfl⟩) | (go_at_call 7; refine (tableAwake_calls _).mono ?_; rintro e w' ⟨rfl, hf⟩))
            go_ret
            exact ⟨rfl, hf.below⟩
          · have hv : numAt s.data.toList k 0 = (le (s.data.toList.take (numSize k)), 0) := by
              unfold numAt; rw [if_neg (by simp; omega), List.drop_zero, if_neg h5]
            have HA := Lib.hid (fun w => NumAt_calls s k 0 w hs (by omega))
            have HG := Lib.hid (fun w => NumGet_ok k s w hs (by omega) (by omega))
            rw [hv] at HA
            rw [numVal_small k _ h5] at HG
            generalize le (s.data.toList.take (numSize k)) = n at HA HG
            have hn : ((n : Int) == (n : Int)) = true := by simp
            clear hv h5 h2 h4
            go_enter Try.func3, Try.ntmps3
            go_wp2_with (first | (go_at_call 6; refine (tableKind_calls _ _).mono ?_; rintro e w' ⟨rfl, rfl⟩) | (go_at_call 8; refine (HA.out _).mono ?_; rintro e w' ⟨rfl, rfl⟩) | (go_at_call 9; refine (HG.out _).mono ?_; rintro e w2 ⟨rfl, hf2⟩) | (go_at_call 7; refine (tableAwake_calls _).mono ?_; rintro e w3 ⟨rfl, hf3⟩))
            go_ret
            exact ⟨rfl, Fr0.below (hf2.trans2 hf3 (fun _ _ x => x))⟩

end Go.Proofs.Ytjfgippolckaeaa
