/- The reference: spec.TableDo: the steps 10. -/
import Derived.Test.YtjfgippolckaeaaGreatSpecTab3
namespace Go.Proofs.YtjfgippolckaeaaGreat
open Go.RowKit
set_option linter.unusedVariables false
set_option linter.unusedSimpArgs false

set_option maxRecDepth 20000 in
set_option maxHeartbeats 8000000 in
theorem TableDo_10 (l : List UInt8) (pos off num : Nat) (k : Int) (w : World) (hl : l.length ≤ 1000000000) (hp : pos < 4294967296) (ho : off < 4294967296) (hn : num < 2 ^ 64) :
    Calls Tryz.prog 13 #[.string (strOf l), .int .u32 pos, stepV 10 k off num] w fun e w' => e = .returned (tdV (sStep l pos 10 k off num)) ∧ Fr0 w w' := by
  have hk1 : slotB k true = true ∨ slotB k true = false := by cases slotB k true <;> simp
  have HSL := Lib.hid (fun w => Slotted_calls k true w)
  by_cases hz : numSize k = 0
  · have hsl : slotted k true = false := by simp [slotted, hz]
    have hb : (((numSize k : Nat) : Int) == 0) = true := by rw [hz]; rfl
    have hs : sStep l pos 10 k off num = (⟨0, [], false, true⟩, l, 1) := by simp [sStep, hsl, sEnd]
    rw [hs]
    clear hs
    unfold stepV tdV at *
    clear hsl hz
    rcases hk1 with hk | hk
    · rw [hk] at HSL
      clear hk
      go_enter Tryz.func13, Tryz.ntmps13
      go_wp2_with fail
      refine (HSL.out _).mono ?_
      rintro e w' ⟨rfl, rfl⟩
      go_wp2_with fail
      refine (NumSize_calls k _).mono ?_
      rintro e w' ⟨rfl, rfl⟩
      go_wp2_with fail
      exact bodyPost_ret (results_row_tmp2 (P := Tryz.prog) rfl _ _ (w.heap.size + 1) 31 _ (0, 0) _ rfl (two_new w _ _) Tryz.underlying31 rfl infoAnsS) rfl ⟨rfl, ((Fr.refl _ w).alloc _).alloc _⟩
    · rw [hk] at HSL
      clear hk
      go_enter Tryz.func13, Tryz.ntmps13
      go_wp2_with fail
      refine (HSL.out _).mono ?_
      rintro e w' ⟨rfl, rfl⟩
      go_wp2_with fail
      exact bodyPost_ret (results_row_tmp2 (P := Tryz.prog) rfl _ _ (w.heap.size + 1) 31 _ (0, 0) _ rfl (two_new w _ _) Tryz.underlying31 rfl infoAnsS) rfl ⟨rfl, ((Fr.refl _ w).alloc _).alloc _⟩
  have hb : (((numSize k : Nat) : Int) == 0) = false := by simp; omega
  have hsl := slotB_eq k true hz
  rw [hsl] at hk1 HSL
  clear hsl
  rcases hk1 with hk | hk
  case neg.inr =>
    have hs : sStep l pos 10 k off num = (⟨0, [], false, true⟩, l, 1) := by simp [sStep, hk, sEnd]
    rw [hs]
    clear hs
    unfold stepV tdV at *
    rw [hk] at HSL
    clear hk hz
    go_enter Tryz.func13, Tryz.ntmps13
    go_wp2_with fail
    refine (HSL.out _).mono ?_
    rintro e w' ⟨rfl, rfl⟩
    go_wp2_with fail
    exact bodyPost_ret (results_row_tmp2 (P := Tryz.prog) rfl _ _ (w.heap.size + 1) 31 _ (0, 0) _ rfl (two_new w _ _) Tryz.underlying31 rfl infoAnsS) rfl ⟨rfl, ((Fr.refl _ w).alloc _).alloc _⟩
  have HA := Lib.hid (fun w => tableOffset_calls l pos (off % 65536) w hl hp (Nat.mod_lt _ (by decide)))
  have HW := Lib.hid (u16_wrap off)
  rw [hk] at HSL
  have hol := sOffset_lt l pos (off % 65536)
  rcases sOffset_cases l pos (off % 65536) with ⟨_, n, h⟩ | ⟨n, _, h⟩
  · have hs : sStep l pos 10 k off num = (⟨0, [], false, true⟩, l, 1) := by simp [sStep, hk, sEnd, h]
    rw [hs]
    clear hs
    unfold stepV tdV at *
    rw [h] at HA
    clear hk h hz hol
    unfold tupV at *
    go_enter Tryz.func13, Tryz.ntmps13
    go_wp2_with fail
    refine (HSL.out _).mono ?_
    rintro e w' ⟨rfl, rfl⟩
    go_wp2_with fail
    refine (NumSize_calls k _).mono ?_
    rintro e w' ⟨rfl, rfl⟩
    go_wp2_with fail
    rw [HW.out]
    refine (HA.out _).mono ?_
    rintro e w' ⟨rfl, rfl⟩
    go_wp2_with fail
    exact bodyPost_ret (results_row_tmp2 (P := Tryz.prog) rfl _ _ (w.heap.size + 1) 31 _ (0, 0) _ rfl (two_new w _ _) Tryz.underlying31 rfl infoAnsS) rfl ⟨rfl, ((Fr.refl _ w).alloc _).alloc _⟩
  rw [h] at HA hol
  have hn2 : n < 65536 := hol
  clear hol
  by_cases hn0 : n = 0
  · subst hn0
    have hs : sStep l pos 10 k off num = (⟨0, [], false, false⟩, l, 0) := by simp [sStep, hk, h]
    rw [hs]
    clear hs h hk hz
    unfold stepV tdV tupV at *
    go_enter Tryz.func13, Tryz.ntmps13
    go_wp2_with fail
    refine (HSL.out _).mono ?_
    rintro e w' ⟨rfl, rfl⟩
    go_wp2_with fail
    refine (NumSize_calls k _).mono ?_
    rintro e w' ⟨rfl, rfl⟩
    go_wp2_with fail
    rw [HW.out]
    refine (HA.out _).mono ?_
    rintro e w' ⟨rfl, rfl⟩
    go_wp2_with fail
    exact bodyPost_ret (results_row_tmp2 (P := Tryz.prog) rfl _ _ (w.heap.size + 1) 31 _ (0, 0) _ rfl (two_new w _ _) Tryz.underlying31 rfl infoAnsS) rfl ⟨rfl, ((Fr.refl _ w).alloc _).alloc _⟩
  have hbn : (((n : Nat) : Int) == 0) = false := by simp; omega
  have hpo : ((pos : Int) + n) % 4294967296 = (w32 (pos + n) : Nat) := by unfold w32; omega
  have HPO := Lib.hid hpo
  have hs : sStep l pos 10 k off num = sWrite (sPut l k (w32 (pos + n)) num) := by simp [sStep, hk, h, hn0]
  have HP := Lib.hid (fun w => numPut_calls (strOf l) k (w32 (pos + n)) num w (by rw [strOf_size]; exact hl) (by unfold w32; omega) hn)
  rw [strOf_list] at HP
  rw [hs]
  clear hs hpo h hn0 hk hz
  rcases sPut_cases l k (w32 (pos + n)) num with ⟨_, h⟩ | ⟨m, _, h⟩
  all_goals
    rw [h] at HP ⊢
    clear h
    unfold stepV putV tdV tupV sWrite at *
    go_enter Tryz.func13, Tryz.ntmps13
    go_wp2_with fail
    refine (HSL.out _).mono ?_
    rintro e w' ⟨rfl, rfl⟩
    go_wp2_with fail
    refine (NumSize_calls k _).mono ?_
    rintro e w' ⟨rfl, rfl⟩
    go_wp2_with fail
    rw [HW.out]
    refine (HA.out _).mono ?_
    rintro e w' ⟨rfl, rfl⟩
    go_wp2_with fail
    rw [HPO.out]
    refine (HP.out _).mono ?_
    rintro e w3 ⟨rfl, hf⟩
    have hb3 := ans_after hf
    have c0 := cell_of hb3 0
    have c1 := cell_of hb3 1
    have c2 := cell_of hb3 2
    have c3 := cell_of hb3 3
    have f0 := frozen_of hb3 0
    have f1 := frozen_of hb3 1
    have f2 := frozen_of hb3 2
    have f3 := frozen_of hb3 3
    simp only [List.getElem?_toArray, List.getElem?_cons_zero, List.getElem?_cons_succ] at c0 c1 c2 c3
    have HBB := Lib.hid hb3
    have HFF := Lib.hid ((((Fr.refl _ w).alloc _).alloc _).trans hf)
    clear hf hb3
    go_wp2_with fail
    exact bodyPost_ret (results_row_tmp2 (P := Tryz.prog) rfl _ _ (w.heap.size + 1) 31 _ (0, 0) _ rfl (heap_setCell_same (heap_setCell_same (heap_setCell_same (heap_setCell_same HBB.out 0 _) 1 _) 2 _) 3 _) Tryz.underlying31 rfl infoAnsS) rfl
      ⟨rfl, (((HFF.out.setCell (fun h => absurd h (by simp)) _).setCell (fun h => absurd h (by simp)) _).setCell (fun h => absurd h (by simp)) _).setCell (fun h => absurd h (by simp)) _⟩
end Go.Proofs.YtjfgippolckaeaaGreat
