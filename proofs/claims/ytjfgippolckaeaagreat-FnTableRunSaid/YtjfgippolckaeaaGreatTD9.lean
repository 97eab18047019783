/- The reference: spec.TableDo: the steps 9. -/
import Derived.Test.YtjfgippolckaeaaGreatSpecTab3
namespace Go.Proofs.YtjfgippolckaeaaGreat
open Go.RowKit
set_option linter.unusedVariables false
set_option linter.unusedSimpArgs false

set_option maxRecDepth 20000 in
set_option maxHeartbeats 8000000 in
theorem TableDo_9 (l : List UInt8) (pos off num : Nat) (k : Int) (w : World) (hl : l.length ≤ 1000000000) (hp : pos < 4294967296) (ho : off < 4294967296) (hn : num < 2 ^ 64) :
    Calls Tryz.prog 13 #[.string (strOf l), .int .u32 pos, stepV 9 k off num] w fun e w' => e = .returned (tdV (sStep l pos 9 k off num)) ∧ Fr0 w w' := by
  have HA := Lib.hid (fun w => numPut_calls (strOf l) k off num w (by rw [strOf_size]; exact hl) ho hn)
  rw [strOf_list] at HA
  have hs : sStep l pos 9 k off num = sWrite (sPut l k off num) := rfl
  rw [hs]
  clear hs
  rcases sPut_cases l k off num with ⟨_, h⟩ | ⟨m, _, h⟩
  all_goals
    rw [h] at HA ⊢
    clear h
    unfold stepV putV tdV sWrite at *
    go_enter Tryz.func13, Tryz.ntmps13
    go_wp2_with fail
    refine (HA.out _).mono ?_
    rintro e w3 ⟨rfl, hf⟩
    have hb3 := ans_after hf
    have c0 := cell_of hb3 0
    have c1 := cell_of hb3 1
    have c2 := cell_of hb3 2
    have c3 := cell_of hb3 3
    have f0 := frozen_of hb3 0
    have f1 := frozen_of hb3 1
    have f2 := frozen_of hb3 2
    have f3 := frozen_of hb3 3
    simp only [List.getElem?_toArray, List.getElem?_cons_zero, List.getElem?_cons_succ] at c0 c1 c2 c3
    have HBB := Lib.hid hb3
    have HFF := Lib.hid ((((Fr.refl _ w).alloc _).alloc _).trans hf)
    clear hf hb3
    go_wp2_with fail
    exact bodyPost_ret (results_row_tmp2 (P := Tryz.prog) rfl _ _ (w.heap.size + 1) 31 _ (0, 0) _ rfl (heap_setCell_same (heap_setCell_same (heap_setCell_same (heap_setCell_same HBB.out 0 _) 1 _) 2 _) 3 _) Tryz.underlying31 rfl infoAnsS) rfl
      ⟨rfl, (((HFF.out.setCell (fun h => absurd h (by simp)) _).setCell (fun h => absurd h (by simp)) _).setCell (fun h => absurd h (by simp)) _).setCell (fun h => absurd h (by simp)) _⟩
end Go.Proofs.YtjfgippolckaeaaGreat
