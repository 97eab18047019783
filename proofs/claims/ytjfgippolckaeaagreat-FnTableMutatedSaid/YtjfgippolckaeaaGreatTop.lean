/- laws.tableKind and laws.tableAwake. -/
import Derived.Test.YtjfgippolckaeaaGreatNumTop
namespace Go.Proofs.YtjfgippolckaeaaGreat
open Go.RowKit
set_option linter.unusedVariables false
set_option linter.unusedSimpArgs false

theorem tableKind_calls (k : Int) (w : World) :
    Calls Tryz.prog 16 #[.int .u8 k] w fun e w' => e = .returned (.bool (decide (0 < numSize k))) ∧ w = w' := by
  go_enter Tryz.func16, Tryz.ntmps16
  go_wp2_with (first | (go_at_call 17; refine (NumSize_calls _ _).mono ?_; rintro e w' ⟨rfl, rfl⟩))
  go_ret
  exact ⟨by simp, rfl⟩

theorem NumGet_lit (w : World) : Calls Tryz.prog 19 #[.int .u8 3, .string ⟨#[52, 18]⟩] w fun e w' => e = .returned (.tuple #[.int .u64 4660, .bool false]) ∧ Fr0 w w' := NumGet_ok 3 ⟨#[52, 18]⟩ w (by decide) (by decide) (by decide)
theorem NumWrite_lit (w : World) : Calls Tryz.prog 20 #[.int .u8 3, .string ⟨#[97, 98, 99]⟩, .int .u64 4660] w fun e w' => e = .returned (.tuple #[.string ⟨#[52, 18, 99]⟩, .bool false]) ∧ Fr0 w w' := NumWrite_ok 3 ⟨#[97, 98, 99]⟩ 4660 w (by decide) (by decide) (by decide) (by decide)

theorem tableAwake_calls (w : World) : Calls Tryz.prog 9 #[] w fun e w' => e = .returned (.bool true) ∧ Fr0 w w' := by
  go_enter Tryz.func9, Tryz.ntmps9
  go_wp2_with fail
  refine (NumGet_lit _).mono ?_
  rintro e w1 ⟨rfl, hf1⟩
  go_wp2_with fail
  refine (NumWrite_lit _).mono ?_
  rintro e w2 ⟨rfl, hf2⟩
  have hf := hf1.trans2 hf2 (fun _ _ h => h)
  clear hf1 hf2
  go_wp2_with fail
  go_ret
  exact ⟨rfl, hf⟩

end Go.Proofs.YtjfgippolckaeaaGreat
