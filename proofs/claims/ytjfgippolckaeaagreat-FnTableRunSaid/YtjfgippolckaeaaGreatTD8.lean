/- The reference: spec.TableDo: the steps 8. -/
import Derived.Test.YtjfgippolckaeaaGreatSpecTab3
namespace Go.Proofs.YtjfgippolckaeaaGreat
open Go.RowKit
set_option linter.unusedVariables false
set_option linter.unusedSimpArgs false

set_option maxRecDepth 20000 in
set_option maxHeartbeats 8000000 in
theorem TableDo_8 (l : List UInt8) (pos off num : Nat) (k : Int) (w : World) (hl : l.length ≤ 1000000000) (hp : pos < 4294967296) (ho : off < 4294967296) (hn : num < 2 ^ 64) :
    Calls Tryz.prog 13 #[.string (strOf l), .int .u32 pos, stepV 8 k off num] w fun e w' => e = .returned (tdV (sStep l pos 8 k off num)) ∧ Fr0 w w' := by
  have hoff : ((off : Int) + pos) % 4294967296 = (w32 (off + pos) : Nat) := by unfold w32; omega
  have HOFF := Lib.hid hoff
  have hw : w32 (off + pos) < 4294967296 := by unfold w32; omega
  have HA := Lib.hid (fun w => tableJump_calls l (w32 (off + pos)) w hl hw)
  clear hoff
  rcases sJump_cases l (w32 (off + pos)) with ⟨_, n, h⟩ | ⟨n, _, h⟩
  · have hs : sStep l pos 8 k off num = (⟨0, [], false, true⟩, l, 1) := by simp [sStep, h, sEnd]
    rw [hs]
    rw [h] at HA
    clear h hs
    unfold stepV tup32V tdV at *
    go_enter Tryz.func13, Tryz.ntmps13
    go_wp2_with fail
    rw [HOFF.out]
    refine (HA.out _).mono ?_
    rintro e w' ⟨rfl, rfl⟩
    go_wp2_with fail
    exact bodyPost_ret (results_row_tmp2 (P := Tryz.prog) rfl _ _ (w.heap.size + 1) 31 _ (0, 0) _ rfl (two_new w _ _) Tryz.underlying31 rfl infoAnsS) rfl ⟨rfl, ((Fr.refl _ w).alloc _).alloc _⟩
  · have hlt := sJump_lt l (w32 (off + pos))
    rw [h] at hlt
    have hlt2 : n < 4294967296 := hlt
    have hs : sStep l pos 8 k off num = (.ofNum n, l, 0) := by simp [sStep, h, sEnd]
    rw [hs]
    rw [h] at HA
    clear h hlt hs
    unfold stepV tup32V tdV at *
    go_enter Tryz.func13, Tryz.ntmps13
    go_wp2_with fail
    rw [HOFF.out]
    refine (HA.out _).mono ?_
    rintro e w' ⟨rfl, rfl⟩
    go_wp2_with fail
    exact bodyPost_ret (results_row_tmp2 (P := Tryz.prog) rfl _ _ (w.heap.size + 1) 31 _ (0, 0) _ rfl (two_new w _ _) Tryz.underlying31 rfl infoAnsS) rfl ⟨rfl, ((Fr.refl _ w).alloc _).alloc _⟩
end Go.Proofs.YtjfgippolckaeaaGreat
