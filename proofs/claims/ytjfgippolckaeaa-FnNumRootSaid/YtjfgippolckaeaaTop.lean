/- laws.tableKind and laws.tableAwake. -/
import Derived.Test.YtjfgippolckaeaaNumTop
namespace Go.Proofs.Ytjfgippolckaeaa
open Go.RowKit
set_option linter.unusedVariables false
set_option linter.unusedSimpArgs false

theorem tableKind_calls (k : Int) (w : World) :
    Calls Try.prog 6 #[.int .u8 k] w fun e w' => e = .returned (.bool (decide (0 < numSize k))) ∧ w = w' := by
  go_enter Try.func6, Try.ntmps6
  go_wp2_with (first | (go_at_call 10; refine (NumSize_calls _ _).mono ?_; rintro e w' ⟨rfl, rfl⟩))
  go_ret
  exact ⟨by simp, rfl⟩

theorem NumGet_lit (w : World) : Calls Try.prog 9 #[.int .u8 3, .string ⟨#[52, 18]⟩] w fun e w' => e = .returned (.tuple #[.int .u64 4660, .bool false]) ∧ Fr0 w w' := NumGet_ok 3 ⟨#[52, 18]⟩ w (by decide) (by decide) (by decide)
theorem NumWrite_lit (w : World) : Calls Try.prog 11 #[.int .u8 3, .string ⟨#[97, 98, 99]⟩, .int .u64 4660] w fun e w' => e = .returned (.tuple #[.string ⟨#[52, 18, 99]⟩, .bool false]) ∧ Fr0 w w' := NumWrite_ok 3 ⟨#[97, 98, 99]⟩ 4660 w (by decide) (by decide) (by decide) (by decide)

theorem tableAwake_calls (w : World) : Calls Try.prog 7 #[] w fun e w' => e = .returned (.bool true) ∧ Fr0 w w' := by
  go_enter Try.func7, Try.ntmps7
  go_wp2_with fail
  refine (NumGet_lit _).mono ?_
  rintro e w1 ⟨rfl, hf1⟩
  go_wp2_with fail
  refine (NumWrite_lit _).mono ?_
  rintro e w2 ⟨rfl, hf2⟩
  have hf := hf1.trans2 hf2 (fun _ _ h => h)
  clear hf1 hf2
  go_wp2_with fail
  go_ret
  exact ⟨rfl, hf⟩

end Go.Proofs.Ytjfgippolckaeaa
