/- FnNumRoot: for every string of bytes and every offset the law returns true, and nothing that was there turns. -/
import Derived.Test.YtjfgippolckaeaaTop
import Derived.Test.YtjfgippolckaeaaRootAs
import Derived.OpenShut
namespace Go.Proofs.Ytjfgippolckaeaa
open Go.RowKit
set_option linter.unusedVariables false
set_option linter.unusedSimpArgs false

set_option maxHeartbeats 4000000 in
theorem FnNumRoot_walk (s : ByteArray) (offset : Int) (w0 : s.size ≤ maxLen) (w1 : (Lit.int .u32 offset).wf = true) (w : World) :
    Calls Try.prog 5 #[.string s, .int .u32 offset] w fun e w' => e = .returned (.bool true) ∧ Below w.heap.size w w' := by
  unfold maxLen at w0
  obtain ⟨p, rfl, hp⟩ : ∃ n : Nat, offset = n ∧ n < 4294967296 := by
    have := bounds_u32 w1
    exact ⟨offset.toNat, by omega, by omega⟩
  clear w1
  by_cases h1 : 2147483647 < s.size
  · go_enter Try.func5, Try.ntmps5
    go_wp2_with fail
    go_ret
    exact ⟨rfl, Below.refl _ _⟩
  · by_cases h3 : 1000 < s.size
    · go_enter Try.func5, Try.ntmps5
      go_wp2_with (go_at_call 7; refine (tableAwake_calls _).mono ?_; rintro e w' ⟨rfl, hf⟩)
      go_ret
      exact ⟨rfl, hf.below⟩
    · have hs : s.size ≤ 1000000000 := by omega
      by_cases h4 : s.size < p + 4
      · have hv : numAt s.data.toList 34 p = (0, 1) := by
          unfold numAt; rw [if_pos (by simp [numSize]; omega)]
        have HA := Lib.hid (fun w => NumAt_calls s 34 p w hs hp)
        rw [hv] at HA
        have HG := Lib.hid (fun w => RootAs_dies s p w hs h4)
        clear hv h4
        go_enter Try.func5, Try.ntmps5
        go_wp2_with (first | (go_at_call 8; refine (HA.out _).mono ?_; rintro e w' ⟨rfl, rfl⟩) | (go_at_call 13; refine (HG.out _).mono ?_; rintro e w2 ⟨rfl, hf2⟩) | (go_at_call 7; refine (tableAwake_calls _).mono ?_; rintro e w3 ⟨rfl, hf3⟩))
        go_ret
        exact ⟨rfl, Fr0.below (hf2.trans2 hf3 (fun _ _ x => x))⟩
      · have hv : numAt s.data.toList 34 p = (le ((s.data.toList.drop p).take 4), 0) := by
          unfold numAt; rw [if_neg (by simp [numSize]; omega), if_neg (by omega)]; rfl
        have HA := Lib.hid (fun w => NumAt_calls s 34 p w hs hp)
        have HG := Lib.hid (fun w => RootAs_ok s p w hs (by omega))
        rw [hv] at HA
        have hlt := le_take_lt (s.data.toList.drop p) 4
        generalize le ((s.data.toList.drop p).take 4) = n at *
        have hw : IntKind.u32.wrap ((n : Int) + p) = (p + n) % 4294967296 := by rw [IntKind.wrap_u32, Int.add_comm]
        have hn : ((((p : Int) + n) % 4294967296) == (((p : Int) + n) % 4294967296)) = true := by simp
        rw [hw] at HG
        have hn1 : (n : Int) ≤ 4294967295 := by omega
        clear hv h4 hw
        go_enter Try.func5, Try.ntmps5
        go_wp2_with (first | (go_at_call 8; refine (HA.out _).mono ?_; rintro e w' ⟨rfl, rfl⟩) | (go_at_call 13; refine (HG.out _).mono ?_; rintro e w2 ⟨rfl, hf2⟩) | (go_at_call 7; refine (tableAwake_calls _).mono ?_; rintro e w3 ⟨rfl, hf3⟩))
        go_ret
        exact ⟨rfl, Fr0.below (hf2.trans2 hf3 (fun _ _ x => x))⟩

end Go.Proofs.Ytjfgippolckaeaa
