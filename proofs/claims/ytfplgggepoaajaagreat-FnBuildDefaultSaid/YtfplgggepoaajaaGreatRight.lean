/- spec.ScalarSize, spec.ScalarRight. -/
import Derived.Test.YtfplgggepoaajaaGreatPlain
namespace Go.Proofs.YtfplgggepoaajaaGreat
open Go.RowKit
set_option linter.unusedVariables false
set_option linter.unusedSimpArgs false

theorem run_sizes (i : Nat) (hi : i < 11) (w : World) : (Instr.index 60 (.agg #[.int .i64 1, .int .i64 1, .int .i64 1, .int .i64 2, .int .i64 2, .int .i64 4, .int .i64 4, .int .i64 8, .int .i64 8, .int .i64 4, .int .i64 8]) (.int .u8 (i : Nat))).run Tryz.prog w = .ok (.int .i64 (numSize (i : Nat))) w := by
  rcases (show i = 0 ∨ i = 1 ∨ i = 2 ∨ i = 3 ∨ i = 4 ∨ i = 5 ∨ i = 6 ∨ i = 7 ∨ i = 8 ∨ i = 9 ∨ i = 10 by omega) with rfl | rfl | rfl | rfl | rfl | rfl | rfl | rfl | rfl | rfl | rfl
  all_goals kernel_rfl
theorem ScalarSize_calls (k : Nat) (hk : k ≤ 10) (w : World) : Calls Tryz.prog 15 #[.int .u8 (k : Nat)] w fun e w' => e = .returned (.int .i64 (numSize k)) ∧ w' = w := by
  have hix := fun w => run_sizes k (by omega) w
  obtain ⟨z, hz⟩ : ∃ z, z = numSize (k : Int) := ⟨_, rfl⟩
  rw [← hz] at hix ⊢
  clear hk hz
  go_enter Tryz.func15, Tryz.ntmps15
  go_wp2_with fail
  go_ret
  exact ⟨rfl, rfl⟩
/-- The bits of a scalar are its kind's. -/
def rightB (k n : Nat) : Bool := if k = 0 then decide (n ≤ 1) else decide (k ≤ 10 ∧ n < 2 ^ (8 * numSize k))
theorem rightB_of (k n P : Nat) (h0 : k ≠ 0) (hk : k ≤ 10) (hP : 2 ^ (8 * numSize (k : Int)) = P) : rightB k n = decide (n < P) := by
  subst hP
  unfold rightB
  rw [if_neg h0]
  exact decide_eq_decide.2 ⟨fun h => h.2, fun h => ⟨hk, h⟩⟩
theorem rightB_iff (k n : Nat) : rightB k n = true ↔ Right (k : Int) n := by
  unfold rightB Right
  by_cases hk : k = 0
  · subst hk
    rw [if_pos rfl, decide_eq_true_iff]
    constructor
    · intro h; exact ⟨by omega, by omega, fun _ => h, by rw [show numSize ((0 : Nat) : Int) = 1 from rfl]; omega⟩
    · intro h; exact h.2.2.1 rfl
  · rw [if_neg hk, decide_eq_true_iff]
    constructor
    · intro h; exact ⟨by omega, by omega, fun h0 => absurd h0 (by omega), h.2⟩
    · intro h; exact ⟨by omega, h.2.2.2⟩
set_option maxRecDepth 20000 in
set_option maxHeartbeats 2000000 in
theorem ScalarRight_calls (k n : Nat) (hk : k < 256) (hn : n < 2 ^ 64) (w : World) : Calls Tryz.prog 11 #[.int .u8 (k : Nat), .int .u64 (n : Nat)] w fun e w' => e = .returned (.bool (rightB k n)) ∧ w' = w := by
  by_cases h10 : 10 < k
  · have e : rightB k n = false := by unfold rightB; rw [if_neg (by omega), decide_eq_false_iff_not]; omega
    rw [e]
    have h0 : ((k : Int) == 0) = false := by rw [beq_eq_false_iff_ne]; omega
    clear e
    go_enter Tryz.func11, Tryz.ntmps11
    go_wp2_with fail
    go_ret
    exact ⟨rfl, rfl⟩
  · have HS := Lib.hid (fun w => ScalarSize_calls k (by omega) w)
    have hn2 : n < 18446744073709551616 := hn
    clear hn
    rcases (show k = 0 ∨ k = 1 ∨ k = 2 ∨ k = 3 ∨ k = 4 ∨ k = 5 ∨ k = 6 ∨ k = 7 ∨ k = 8 ∨ k = 9 ∨ k = 10 by omega) with rfl | rfl | rfl | rfl | rfl | rfl | rfl | rfl | rfl | rfl | rfl
    · go_enter Tryz.func11, Tryz.ntmps11
      go_wp2_with fail
      go_ret
      refine ⟨?_, rfl⟩
      show Ending.returned (.bool (decide ((n : Int) ≤ 1))) = .returned (.bool (decide (n ≤ 1)))
      congr 2
      exact decide_eq_decide.2 (by omega)
    · go_enter Tryz.func11, Tryz.ntmps11
      go_wp2_with fail
      refine (HS.out _).mono ?_
      rintro e w' ⟨rfl, rfl⟩
      have e1 : ((numSize ((1 : Nat) : Int) : Nat) : Int) = 1 := rfl
      rw [e1]
      go_wp2_with fail
      refine (HS.out _).mono ?_
      rintro e w' ⟨rfl, rfl⟩
      rw [e1]
      go_wp2_with fail
      go_ret
      refine ⟨?_, rfl⟩
      rw [rightB_of 1 n 256 (by omega) (by omega) rfl]
      refine congrArg Ending.returned (congrArg Value.bool ?_)
      exact decide_eq_decide.2 (by omega)
    · go_enter Tryz.func11, Tryz.ntmps11
      go_wp2_with fail
      refine (HS.out _).mono ?_
      rintro e w' ⟨rfl, rfl⟩
      have e1 : ((numSize ((2 : Nat) : Int) : Nat) : Int) = 1 := rfl
      rw [e1]
      go_wp2_with fail
      refine (HS.out _).mono ?_
      rintro e w' ⟨rfl, rfl⟩
      rw [e1]
      go_wp2_with fail
      go_ret
      refine ⟨?_, rfl⟩
      rw [rightB_of 2 n 256 (by omega) (by omega) rfl]
      refine congrArg Ending.returned (congrArg Value.bool ?_)
      exact decide_eq_decide.2 (by omega)
    · go_enter Tryz.func11, Tryz.ntmps11
      go_wp2_with fail
      refine (HS.out _).mono ?_
      rintro e w' ⟨rfl, rfl⟩
      have e1 : ((numSize ((3 : Nat) : Int) : Nat) : Int) = 2 := rfl
      rw [e1]
      go_wp2_with fail
      refine (HS.out _).mono ?_
      rintro e w' ⟨rfl, rfl⟩
      rw [e1]
      go_wp2_with fail
      go_ret
      refine ⟨?_, rfl⟩
      rw [rightB_of 3 n 65536 (by omega) (by omega) rfl]
      refine congrArg Ending.returned (congrArg Value.bool ?_)
      exact decide_eq_decide.2 (by omega)
    · go_enter Tryz.func11, Tryz.ntmps11
      go_wp2_with fail
      refine (HS.out _).mono ?_
      rintro e w' ⟨rfl, rfl⟩
      have e1 : ((numSize ((4 : Nat) : Int) : Nat) : Int) = 2 := rfl
      rw [e1]
      go_wp2_with fail
      refine (HS.out _).mono ?_
      rintro e w' ⟨rfl, rfl⟩
      rw [e1]
      go_wp2_with fail
      go_ret
      refine ⟨?_, rfl⟩
      rw [rightB_of 4 n 65536 (by omega) (by omega) rfl]
      refine congrArg Ending.returned (congrArg Value.bool ?_)
      exact decide_eq_decide.2 (by omega)
    · go_enter Tryz.func11, Tryz.ntmps11
      go_wp2_with fail
      refine (HS.out _).mono ?_
      rintro e w' ⟨rfl, rfl⟩
      have e1 : ((numSize ((5 : Nat) : Int) : Nat) : Int) = 4 := rfl
      rw [e1]
      go_wp2_with fail
      refine (HS.out _).mono ?_
      rintro e w' ⟨rfl, rfl⟩
      rw [e1]
      go_wp2_with fail
      go_ret
      refine ⟨?_, rfl⟩
      rw [rightB_of 5 n 4294967296 (by omega) (by omega) rfl]
      refine congrArg Ending.returned (congrArg Value.bool ?_)
      exact decide_eq_decide.2 (by omega)
    · go_enter Tryz.func11, Tryz.ntmps11
      go_wp2_with fail
      refine (HS.out _).mono ?_
      rintro e w' ⟨rfl, rfl⟩
      have e1 : ((numSize ((6 : Nat) : Int) : Nat) : Int) = 4 := rfl
      rw [e1]
      go_wp2_with fail
      refine (HS.out _).mono ?_
      rintro e w' ⟨rfl, rfl⟩
      rw [e1]
      go_wp2_with fail
      go_ret
      refine ⟨?_, rfl⟩
      rw [rightB_of 6 n 4294967296 (by omega) (by omega) rfl]
      refine congrArg Ending.returned (congrArg Value.bool ?_)
      exact decide_eq_decide.2 (by omega)
    · go_enter Tryz.func11, Tryz.ntmps11
      go_wp2_with fail
      refine (HS.out _).mono ?_
      rintro e w' ⟨rfl, rfl⟩
      have e1 : ((numSize ((7 : Nat) : Int) : Nat) : Int) = 8 := rfl
      rw [e1]
      go_wp2_with fail
      go_ret
      refine ⟨?_, rfl⟩
      rw [rightB_of 7 n 18446744073709551616 (by omega) (by omega) rfl]
      show Ending.returned (.bool true) = .returned (.bool (decide (n < 18446744073709551616)))
      congr 2
      exact (decide_eq_true hn2).symm
    · go_enter Tryz.func11, Tryz.ntmps11
      go_wp2_with fail
      refine (HS.out _).mono ?_
      rintro e w' ⟨rfl, rfl⟩
      have e1 : ((numSize ((8 : Nat) : Int) : Nat) : Int) = 8 := rfl
      rw [e1]
      go_wp2_with fail
      go_ret
      refine ⟨?_, rfl⟩
      rw [rightB_of 8 n 18446744073709551616 (by omega) (by omega) rfl]
      show Ending.returned (.bool true) = .returned (.bool (decide (n < 18446744073709551616)))
      congr 2
      exact (decide_eq_true hn2).symm
    · go_enter Tryz.func11, Tryz.ntmps11
      go_wp2_with fail
      refine (HS.out _).mono ?_
      rintro e w' ⟨rfl, rfl⟩
      have e1 : ((numSize ((9 : Nat) : Int) : Nat) : Int) = 4 := rfl
      rw [e1]
      go_wp2_with fail
      refine (HS.out _).mono ?_
      rintro e w' ⟨rfl, rfl⟩
      rw [e1]
      go_wp2_with fail
      go_ret
      refine ⟨?_, rfl⟩
      rw [rightB_of 9 n 4294967296 (by omega) (by omega) rfl]
      refine congrArg Ending.returned (congrArg Value.bool ?_)
      exact decide_eq_decide.2 (by omega)
    · go_enter Tryz.func11, Tryz.ntmps11
      go_wp2_with fail
      refine (HS.out _).mono ?_
      rintro e w' ⟨rfl, rfl⟩
      have e1 : ((numSize ((10 : Nat) : Int) : Nat) : Int) = 8 := rfl
      rw [e1]
      go_wp2_with fail
      go_ret
      refine ⟨?_, rfl⟩
      rw [rightB_of 10 n 18446744073709551616 (by omega) (by omega) rfl]
      show Ending.returned (.bool true) = .returned (.bool (decide (n < 18446744073709551616)))
      congr 2
      exact (decide_eq_true hn2).symm
end Go.Proofs.YtfplgggepoaajaaGreat
