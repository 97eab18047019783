/- The reference: spec.TableDo: the steps none. -/
import Derived.Test.YtjfgippolckaeaaGreatSpecTab3
namespace Go.Proofs.YtjfgippolckaeaaGreat
open Go.RowKit
set_option linter.unusedVariables false
set_option linter.unusedSimpArgs false

set_option maxRecDepth 20000 in
set_option maxHeartbeats 8000000 in
theorem TableDo_none (l : List UInt8) (pos off num : Nat) (op k : Int) (w : World) (h : ¬ (0 ≤ op ∧ op ≤ 10)) :
    Calls Tryz.prog 13 #[.string (strOf l), .int .u32 pos, stepV op k off num] w fun e w' => e = .returned (tdV (sStep l pos op k off num)) ∧ Fr0 w w' := by
  have hs : sStep l pos op k off num = (⟨0, [], false, true⟩, l, 1) := by
    have e : ∀ c : Int, 0 ≤ c → c ≤ 10 → op ≠ c := fun c h1 h2 e => h (by omega)
    simp [sStep, sEnd, e 0 (by omega) (by omega), e 1 (by omega) (by omega), e 2 (by omega) (by omega), e 3 (by omega) (by omega), e 4 (by omega) (by omega), e 5 (by omega) (by omega), e 6 (by omega) (by omega), e 7 (by omega) (by omega), e 8 (by omega) (by omega), e 9 (by omega) (by omega), e 10 (by omega) (by omega)]
  rw [hs]
  have b0 : (op == 0) = false := by simp; omega
  have b1 : (op == 1) = false := by simp; omega
  have b2 : (op == 2) = false := by simp; omega
  have b3 : (op == 3) = false := by simp; omega
  have b4 : (op == 4) = false := by simp; omega
  have b5 : (op == 5) = false := by simp; omega
  have b6 : (op == 6) = false := by simp; omega
  have b7 : (op == 7) = false := by simp; omega
  have b8 : (op == 8) = false := by simp; omega
  have b9 : (op == 9) = false := by simp; omega
  have b10 : (op == 10) = false := by simp; omega
  clear hs h
  unfold stepV tdV at *
  go_enter Tryz.func13, Tryz.ntmps13
  go_wp2_with fail
  exact bodyPost_ret (results_row_tmp2 (P := Tryz.prog) rfl _ _ (w.heap.size + 1) 31 _ (0, 0) _ rfl (two_new w _ _) Tryz.underlying31 rfl infoAnsS) rfl ⟨rfl, ((Fr.refl _ w).alloc _).alloc _⟩
end Go.Proofs.YtjfgippolckaeaaGreat
