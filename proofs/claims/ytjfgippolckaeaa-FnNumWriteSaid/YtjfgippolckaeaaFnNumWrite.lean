/- FnNumWrite: for every kind of numbers, every string of bytes and every number the law returns true, and nothing that was there turns. -/
import Derived.Test.YtjfgippolckaeaaFnNumGet
import Derived.Test.YtjfgippolckaeaaNumBytes
import Derived.OpenShut
namespace Go.Proofs.Ytjfgippolckaeaa
open Go.RowKit
set_option linter.unusedVariables false
set_option linter.unusedSimpArgs false

theorem le_numB_bool (k : Int) (n : Nat) : ¬ (k = 0 ∧ 1 < le (numB k n)) := by
  rintro ⟨rfl, h⟩
  have e : numB 0 n = leB 1 (if (0 : Int) = 0 ∧ n ≠ 0 then 1 else n) := rfl
  rw [e, le_leB] at h
  split at h
  · simp at h
  · have : n = 0 := by simp_all
    subst this; simp at h

set_option maxHeartbeats 4000000 in
theorem FnNumWrite_walk (k : Int) (s : ByteArray) (num : Int) (w0 : (Lit.int .u8 k).wf = true) (w1 : s.size ≤ maxLen) (w2 : (Lit.int .u64 num).wf = true) (w : World) :
    Calls Try.prog 4 #[.int .u8 k, .string s, .int .u64 num] w fun e w' => e = .returned (.bool true) ∧ Below w.heap.size w w' := by
  unfold maxLen at w1
  obtain ⟨n, rfl, hn⟩ : ∃ n : Nat, num = n ∧ n < 2 ^ 64 := by
    have := bounds_u64 w2
    exact ⟨num.toNat, by omega, by omega⟩
  have hz := numSize_le k
  clear w0 w2
  by_cases h1 : 2147483647 < s.size
  · go_enter Try.func4, Try.ntmps4
    go_wp2_with fail
    go_ret
    exact ⟨rfl, Below.refl _ _⟩
  · by_cases h2 : numSize k = 0
    · have hb : (!decide (0 < numSize k)) = true := by simp [h2]
      have hd : decide (0 < numSize k) = false := by simp [h2]
      clear h2
      go_enter Try.func4, Try.ntmps4
      go_wp2_with (first | (go_at_call 6; refine (tableKind_calls _ _).mono ?_; rintro e w' ⟨rfl, rfl⟩) | (go_at_call 7; refine (tableAwake_calls _).mono ?_; rintro e w' ⟨rfl, hf⟩))
      go_ret
      exact ⟨rfl, hf.below⟩
    · have hd : decide (0 < numSize k) = true := by simp; omega
      by_cases h3 : 1000 < s.size
      · go_enter Try.func4, Try.ntmps4
        go_wp2_with (first | (go_at_call 6; refine (tableKind_calls _ _).mono ?_; rintro e w' ⟨rfl, rfl⟩) | (go_at_call 7; refine (tableAwake_calls _).mono ?_; rintro e w' ⟨rfl, hf⟩))
        go_ret
        exact ⟨rfl, hf.below⟩
      · have hs : s.size ≤ 1000000000 := by omega
        by_cases h4 : s.size < numSize k
        · have HW := Lib.hid (fun w => NumWrite_dies k s n w hs (.inr h4) hn)
          have h5 : decide ((s.size : Int) < (numSize k : Int)) = true := by simp; omega
          clear h2
          go_enter Try.func4, Try.ntmps4
          go_wp2_with (first | (go_at_call 6; refine (tableKind_calls _ _).mono ?_; rintro e w' ⟨rfl, rfl⟩) | (go_at_call 10; refine (NumSize_calls _ _).mono ?_; rintro e w' ⟨rfl, rfl⟩) | (go_at_call 11; refine (HW.out _).mono ?_; rintro e w2 ⟨rfl, hf2⟩) | (go_at_call 7; refine (tableAwake_calls _).mono ?_; rintro e w3 ⟨rfl, hf3⟩))
          go_ret
          exact ⟨rfl, Fr0.below (hf2.trans2 hf3 (fun _ _ x => x))⟩
        · have hnb := numB_length k n
          have htk : (numB k n ++ s.data.toList.drop (numSize k)).take (numSize k) = numB k n := by rw [List.take_append_of_le_length (by omega), List.take_of_length_le (by omega)]
          have hbool := le_numB_bool k n
          have hsz : (strOf (numB k n ++ s.data.toList.drop (numSize k))).size = s.size := by
            rw [strOf_size, List.length_append, hnb, List.length_drop]; simp; omega
          have HW := Lib.hid (fun w => NumWrite_ok k s n w hs (by omega) (by omega) hn)
          have HB := Lib.hid (fun w => NumBytes_calls k n w hn)
          have HG := Lib.hid (fun w => NumGet_ok k (strOf (numB k n ++ s.data.toList.drop (numSize k))) w (by omega) (by omega) (by omega))
          rw [strOf_list, htk, numVal_small k _ hbool] at HG
          have hv : numAt (strOf (numB k n)).data.toList k 0 = (le (numB k n), 0) := by
            unfold numAt; rw [strOf_list, List.drop_zero, List.take_of_length_le (by omega), if_neg (by omega), if_neg hbool]
          have HA := Lib.hid (fun w => NumAt_calls (strOf (numB k n)) k 0 w (by rw [strOf_size]; omega) (by omega))
          rw [hv] at HA
          have hcat : strOf (numB k n) ++ s.extract (numSize k) s.size = strOf (numB k n ++ s.data.toList.drop (numSize k)) := by
            apply ByteArray.ext
            simp [strOf]
            exact List.take_of_length_le (by simp)
          have hroom : (strOf (numB k n)).size + (s.size - numSize k) ≤ 9223372036854775807 := by rw [strOf_size]; omega
          have heq : (strOf (numB k n) ++ s.extract (numSize k) s.size).toList = (strOf (numB k n ++ s.data.toList.drop (numSize k))).toList := by rw [hcat]
          clear hcat hv htk hbool hsz hnb h2
          generalize strOf (numB k n ++ s.data.toList.drop (numSize k)) = aft at *
          generalize strOf (numB k n) = wan at *
          generalize le (numB k n) = v at *
          have hn1 : ((v : Int) == (v : Int)) = true := by simp
          go_enter Try.func4, Try.ntmps4
          go_wp2_with (first | (go_at_call 6; refine (tableKind_calls _ _).mono ?_; rintro e w' ⟨rfl, rfl⟩) | (go_at_call 10; refine (NumSize_calls _ _).mono ?_; rintro e w' ⟨rfl, rfl⟩) | (go_at_call 11; refine (HW.out _).mono ?_; rintro e w2 ⟨rfl, hf2⟩) | (go_at_call 12; refine (HB.out _).mono ?_; rintro e w3 ⟨rfl, hf3⟩) | (go_at_call 9; refine (HG.out _).mono ?_; rintro e w4 ⟨rfl, hf4⟩) | (go_at_call 8; refine (HA.out _).mono ?_; rintro e w' ⟨rfl, rfl⟩) | (go_at_call 7; refine (tableAwake_calls _).mono ?_; rintro e w5 ⟨rfl, hf5⟩))
          go_ret
          exact ⟨rfl, Fr0.below (((hf2.trans2 hf3 (fun _ _ x => x)).trans2 hf4 (fun _ _ x => x)).trans2 hf5 (fun _ _ x => x))⟩

end Go.Proofs.Ytjfgippolckaeaa
