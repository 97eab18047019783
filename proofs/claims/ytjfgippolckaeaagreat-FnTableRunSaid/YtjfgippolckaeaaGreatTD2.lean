/- The reference: spec.TableDo: the steps 2. -/
import Derived.Test.YtjfgippolckaeaaGreatSpecTab3
namespace Go.Proofs.YtjfgippolckaeaaGreat
open Go.RowKit
set_option linter.unusedVariables false
set_option linter.unusedSimpArgs false

set_option maxRecDepth 20000 in
set_option maxHeartbeats 8000000 in
theorem TableDo_2 (l : List UInt8) (pos off num : Nat) (k : Int) (w : World) (hl : l.length ≤ 1000000000) (hp : pos < 4294967296) (ho : off < 4294967296) (hn : num < 2 ^ 64) :
    Calls Tryz.prog 13 #[.string (strOf l), .int .u32 pos, stepV 2 k off num] w fun e w' => e = .returned (tdV (sStep l pos 2 k off num)) ∧ Fr0 w w' := by
  have HA := Lib.hid (fun w => numAt_list l k off w hl ho)
  have hs : sStep l pos 2 k off num = sEnd l (numAt l k off) := rfl
  rw [hs]
  clear hs
  have h3 : ∃ n e, numAt l k off = (n, e) ∧ (e = 0 ∨ e = 1 ∨ e = 2) := by
    rcases numAt_cases l k off with ⟨_, h⟩ | ⟨n, _, _, _, h⟩ | ⟨n, _, _, h⟩
    · exact ⟨_, _, h, .inr (.inl rfl)⟩
    · exact ⟨_, _, h, .inr (.inr rfl)⟩
    · exact ⟨_, _, h, .inl rfl⟩
  obtain ⟨n, e, h, he⟩ := h3
  rcases he with rfl | rfl | rfl
  all_goals
    rw [h] at HA ⊢
    clear h
    unfold stepV tupV tdV at *
    go_enter Tryz.func13, Tryz.ntmps13
    go_wp2_with fail
    refine (HA.out _).mono ?_
    rintro e w' ⟨rfl, rfl⟩
    go_wp2_with fail
    exact bodyPost_ret (results_row_tmp2 (P := Tryz.prog) rfl _ _ (w.heap.size + 1) 31 _ (0, 0) _ rfl (two_new w _ _) Tryz.underlying31 rfl infoAnsS) rfl ⟨rfl, ((Fr.refl _ w).alloc _).alloc _⟩
end Go.Proofs.YtjfgippolckaeaaGreat
