/- The reference: spec.TableDo: the steps 1. -/
import Derived.Test.YtjfgippolckaeaaGreatSpecTab3
namespace Go.Proofs.YtjfgippolckaeaaGreat
open Go.RowKit
set_option linter.unusedVariables false
set_option linter.unusedSimpArgs false

set_option maxRecDepth 20000 in
set_option maxHeartbeats 8000000 in
theorem TableDo_1 (l : List UInt8) (pos off num : Nat) (k : Int) (w : World) (hl : l.length ≤ 1000000000) (hp : pos < 4294967296) (ho : off < 4294967296) (hn : num < 2 ^ 64) :
    Calls Tryz.prog 13 #[.string (strOf l), .int .u32 pos, stepV 1 k off num] w fun e w' => e = .returned (tdV (sStep l pos 1 k off num)) ∧ Fr0 w w' := by
  have hk1 : slotB k false = true ∨ slotB k false = false := by cases slotB k false <;> simp
  have HSL := Lib.hid (fun w => Slotted_calls k false w)
  by_cases hz : numSize k = 0
  · have hsl : slotted k false = false := by simp [slotted, hz]
    have hb : (((numSize k : Nat) : Int) == 0) = true := by rw [hz]; rfl
    have hs : sStep l pos 1 k off num = (⟨0, [], false, true⟩, l, 1) := by simp [sStep, hsl, sEnd]
    rw [hs]
    clear hs
    unfold stepV tdV at *
    clear hsl hz
    rcases hk1 with hk | hk
    · rw [hk] at HSL
      clear hk
      go_enter Tryz.func13, Tryz.ntmps13
      go_wp2_with fail
      refine (HSL.out _).mono ?_
      rintro e w' ⟨rfl, rfl⟩
      go_wp2_with fail
      refine (NumSize_calls k _).mono ?_
      rintro e w' ⟨rfl, rfl⟩
      go_wp2_with fail
      exact bodyPost_ret (results_row_tmp2 (P := Tryz.prog) rfl _ _ (w.heap.size + 1) 31 _ (0, 0) _ rfl (two_new w _ _) Tryz.underlying31 rfl infoAnsS) rfl ⟨rfl, ((Fr.refl _ w).alloc _).alloc _⟩
    · rw [hk] at HSL
      clear hk
      go_enter Tryz.func13, Tryz.ntmps13
      go_wp2_with fail
      refine (HSL.out _).mono ?_
      rintro e w' ⟨rfl, rfl⟩
      go_wp2_with fail
      exact bodyPost_ret (results_row_tmp2 (P := Tryz.prog) rfl _ _ (w.heap.size + 1) 31 _ (0, 0) _ rfl (two_new w _ _) Tryz.underlying31 rfl infoAnsS) rfl ⟨rfl, ((Fr.refl _ w).alloc _).alloc _⟩
  have hb : (((numSize k : Nat) : Int) == 0) = false := by simp; omega
  have hsl := slotB_eq k false hz
  rw [hsl] at hk1 HSL
  clear hsl
  rcases hk1 with hk | hk
  case neg.inr =>
    have hs : sStep l pos 1 k off num = (⟨0, [], false, true⟩, l, 1) := by simp [sStep, hk, sEnd]
    rw [hs]
    clear hs
    unfold stepV tdV at *
    rw [hk] at HSL
    clear hk hz
    go_enter Tryz.func13, Tryz.ntmps13
    go_wp2_with fail
    refine (HSL.out _).mono ?_
    rintro e w' ⟨rfl, rfl⟩
    go_wp2_with fail
    exact bodyPost_ret (results_row_tmp2 (P := Tryz.prog) rfl _ _ (w.heap.size + 1) 31 _ (0, 0) _ rfl (two_new w _ _) Tryz.underlying31 rfl infoAnsS) rfl ⟨rfl, ((Fr.refl _ w).alloc _).alloc _⟩
  have HA := Lib.hid (fun w => tableOffset_calls l pos (off % 65536) w hl hp (Nat.mod_lt _ (by decide)))
  have HW := Lib.hid (u16_wrap off)
  rw [hk] at HSL
  have hol := sOffset_lt l pos (off % 65536)
  rcases sOffset_cases l pos (off % 65536) with ⟨_, n, h⟩ | ⟨n, _, h⟩
  · have hs : sStep l pos 1 k off num = (⟨0, [], false, true⟩, l, 1) := by simp [sStep, hk, sEnd, h]
    rw [hs]
    clear hs
    unfold stepV tdV at *
    rw [h] at HA
    clear hk h hz hol
    unfold tupV at *
    go_enter Tryz.func13, Tryz.ntmps13
    go_wp2_with fail
    refine (HSL.out _).mono ?_
    rintro e w' ⟨rfl, rfl⟩
    go_wp2_with fail
    refine (NumSize_calls k _).mono ?_
    rintro e w' ⟨rfl, rfl⟩
    go_wp2_with fail
    rw [HW.out]
    refine (HA.out _).mono ?_
    rintro e w' ⟨rfl, rfl⟩
    go_wp2_with fail
    exact bodyPost_ret (results_row_tmp2 (P := Tryz.prog) rfl _ _ (w.heap.size + 1) 31 _ (0, 0) _ rfl (two_new w _ _) Tryz.underlying31 rfl infoAnsS) rfl ⟨rfl, ((Fr.refl _ w).alloc _).alloc _⟩
  rw [h] at HA hol
  have hn2 : n < 65536 := hol
  clear hol
  by_cases hn0 : n = 0
  · subst hn0
    have hs : sStep l pos 1 k off num = (.ofNum (defVal k num), l, 0) := by simp [sStep, hk, h, sEnd]
    have hdv : numAt (numB k num) k 0 = (defVal k num, 0) := by rw [numAt_own2 k num (by omega), defVal_eq]
    have HD := Lib.hid (fun w => numAt_list (numB k num) k 0 w (by rw [numB_length]; have := numSize_le k; omega) (by omega))
    rw [hdv] at HD
    have HCK : RowKit.Hid (∀ w', Fr0 ((w.alloc (.cells #[.int .u8 1, .int .u8 k, .int .u32 off, .int .u64 num] 35)).alloc (.cells #[.int .u64 0, .string ⟨#[]⟩, .bool false, .bool false] 31)) w' → w'.cell? ⟨w.heap.size, 1, none⟩ = some (.int .u8 k)) := Lib.hid (fun w' hf => (Fr.cell hf (p := ⟨w.heap.size, 1, none⟩) (by simp; omega) (fun x => x)).trans (step_cell w _ (.cells #[] 0) 1 _ rfl))
    have HCN : RowKit.Hid (∀ w', Fr0 ((w.alloc (.cells #[.int .u8 1, .int .u8 k, .int .u32 off, .int .u64 num] 35)).alloc (.cells #[.int .u64 0, .string ⟨#[]⟩, .bool false, .bool false] 31)) w' → w'.cell? ⟨w.heap.size, 3, none⟩ = some (.int .u64 num)) := Lib.hid (fun w' hf => (Fr.cell hf (p := ⟨w.heap.size, 3, none⟩) (by simp; omega) (fun x => x)).trans (step_cell w _ (.cells #[] 0) 3 _ rfl))
    rw [hs]
    clear hs h hk hz hdv
    unfold stepV tdV tupV at *
    go_enter Tryz.func13, Tryz.ntmps13
    go_wp2_with fail
    refine (HSL.out _).mono ?_
    rintro e w' ⟨rfl, rfl⟩
    go_wp2_with fail
    refine (NumSize_calls k _).mono ?_
    rintro e w' ⟨rfl, rfl⟩
    go_wp2_with fail
    rw [HW.out]
    refine (HA.out _).mono ?_
    rintro e w' ⟨rfl, rfl⟩
    go_wp2_with fail
    refine wp_region_rows2 (by kernel_rfl) [some 92, some 93, some 94, some 95, some 96, some 97, some 98, some 99, some 91, some 100, some 101, some 9] (fun w' => Fr0 ((w.alloc (.cells #[.int .u8 1, .int .u8 k, .int .u32 off, .int .u64 num] 35)).alloc (.cells #[.int .u64 0, .string ⟨#[]⟩, .bool false, .bool false] 31)) w') Fr0
      (PhiZ (fun i => none) (fun i => match i with | 0 => .pointer (some ⟨w.heap.size, 1, none⟩) | 1 => .int .u8 k | 2 => .pointer (some ⟨w.heap.size, 3, none⟩) | 3 => .int .u64 num | 4 => .string (strOf (numB k num)) | 5 => .pointer (some ⟨w.heap.size, 1, none⟩) | 6 => .int .u8 k | 7 => .tuple #[.int .u64 (defVal k num), .int .u8 0] | 8 => .tuple #[.int .u64 (defVal k num), .int .u8 0] | 9 => .int .u64 (defVal k num) | 10 => .int .u8 0 | _ => .int .u64 (defVal k num)))
      rfl (by decide) (by kernel_rfl) _ (fun V => by simp only [putAll, Act.put, List.setIfInBounds_toArray, List.set_cons_zero, List.set_cons_succ]; rfl) (PhiZ_keep _ _) (by kernel_rfl) ((Fr.refl _ _).drew) ?hend ?hstep
    case hstep =>
      refine ⟨?_, ?_, ?_, ?_, ?_, ?_, ?_, ?_, ?_, ?_, ?_, ?_, trivial⟩
      · intro V w' hS hV K' hK
        clear hV
        simp only [Act.put, List.setIfInBounds_toArray, List.set_cons_zero, List.set_cons_succ] at hK
        have HK := Lib.hid hK; clear hK
        go_simp
        exact HK.out _ _ hS (Fr.refl _ w') (by first | rfl | exact congrArg _ (rfl))
      · intro V w' hS hV K' hK
        obtain ⟨h0, _⟩ := hV
        have h0 : V 0 = .pointer (some ⟨w.heap.size, 1, none⟩) := h0
        simp only [Act.put, List.setIfInBounds_toArray, List.set_cons_zero, List.set_cons_succ, h0] at hK
        have HK := Lib.hid hK; clear hK
        have cq := HCK.out _ hS
        go_simp
        exact HK.out _ _ hS (Fr.refl _ w') (by first | rfl | exact congrArg _ (rfl))
      · intro V w' hS hV K' hK
        clear hV
        simp only [Act.put, List.setIfInBounds_toArray, List.set_cons_zero, List.set_cons_succ] at hK
        have HK := Lib.hid hK; clear hK
        go_simp
        exact HK.out _ _ hS (Fr.refl _ w') (by first | rfl | exact congrArg _ (rfl))
      · intro V w' hS hV K' hK
        obtain ⟨h2, _⟩ := hV
        have h2 : V 2 = .pointer (some ⟨w.heap.size, 3, none⟩) := h2
        simp only [Act.put, List.setIfInBounds_toArray, List.set_cons_zero, List.set_cons_succ, h2] at hK
        have HK := Lib.hid hK; clear hK
        have cq := HCN.out _ hS
        go_simp
        exact HK.out _ _ hS (Fr.refl _ w') (by first | rfl | exact congrArg _ (rfl))
      · intro V w' hS hV K' hK
        obtain ⟨h1, h3, _⟩ := hV
        have h1 : V 1 = .int .u8 k := h1
        have h3 : V 3 = .int .u64 num := h3
        simp only [Act.put, List.setIfInBounds_toArray, List.set_cons_zero, List.set_cons_succ, h1, h3] at hK
        have HK := Lib.hid hK; clear hK
        go_simp
        refine (NumBytes_calls k num w' hn).mono ?_
        rintro e w2 ⟨rfl, hf⟩
        exact HK.out _ _ (hS.trans hf) hf rfl
      · intro V w' hS hV K' hK
        clear hV
        simp only [Act.put, List.setIfInBounds_toArray, List.set_cons_zero, List.set_cons_succ] at hK
        have HK := Lib.hid hK; clear hK
        go_simp
        exact HK.out _ _ hS (Fr.refl _ w') (by first | rfl | exact congrArg _ (rfl))
      · intro V w' hS hV K' hK
        obtain ⟨h5, _⟩ := hV
        have h5 : V 5 = .pointer (some ⟨w.heap.size, 1, none⟩) := h5
        simp only [Act.put, List.setIfInBounds_toArray, List.set_cons_zero, List.set_cons_succ, h5] at hK
        have HK := Lib.hid hK; clear hK
        have cq := HCK.out _ hS
        go_simp
        exact HK.out _ _ hS (Fr.refl _ w') (by first | rfl | exact congrArg _ (rfl))
      · intro V w' hS hV K' hK
        obtain ⟨h4, h6, _⟩ := hV
        have h4 : V 4 = .string (strOf (numB k num)) := h4
        have h6 : V 6 = .int .u8 k := h6
        simp only [Act.put, List.setIfInBounds_toArray, List.set_cons_zero, List.set_cons_succ, h4, h6] at hK
        have HK := Lib.hid hK; clear hK
        go_simp
        refine (HD.out w').mono ?_
        rintro e w2 ⟨rfl, rfl⟩
        have hf := Fr.refl (fun _ : Nat => False) w'
        exact HK.out _ _ (hS.trans hf) hf rfl
      · intro V w' hS hV K' hK
        obtain ⟨h7, _⟩ := hV
        have h7 : V 7 = .tuple #[.int .u64 (defVal k num), .int .u8 0] := h7
        simp only [Act.put, List.setIfInBounds_toArray, List.set_cons_zero, List.set_cons_succ, h7] at hK
        have HK := Lib.hid hK; clear hK
        go_simp
        exact HK.out _ _ hS (Fr.refl _ w') (by first | rfl | exact congrArg _ (rfl))
      · intro V w' hS hV K' hK
        obtain ⟨h8, _⟩ := hV
        have h8 : V 8 = .tuple #[.int .u64 (defVal k num), .int .u8 0] := h8
        simp only [Act.put, List.setIfInBounds_toArray, List.set_cons_zero, List.set_cons_succ, h8] at hK
        have HK := Lib.hid hK; clear hK
        go_simp
        exact HK.out _ _ hS (Fr.refl _ w') (by first | rfl | exact congrArg _ (rfl))
      · intro V w' hS hV K' hK
        obtain ⟨h8, _⟩ := hV
        have h8 : V 8 = .tuple #[.int .u64 (defVal k num), .int .u8 0] := h8
        simp only [Act.put, List.setIfInBounds_toArray, List.set_cons_zero, List.set_cons_succ, h8] at hK
        have HK := Lib.hid hK; clear hK
        go_simp
        exact HK.out _ _ hS (Fr.refl _ w') (by first | rfl | exact congrArg _ (rfl))
      · intro V w' hS hV K' hK
        obtain ⟨h9, _⟩ := hV
        have h9 : V 9 = .int .u64 (defVal k num) := h9
        simp only [Act.put, List.setIfInBounds_toArray, List.set_cons_zero, List.set_cons_succ, h9] at hK
        have HK := Lib.hid hK; clear hK
        go_simp
        exact HK.out _ _ hS (Fr.refl _ w') (by first | rfl | exact congrArg _ (rfl))
    case hend =>
      intro V w3 hf hV
      have h11 : V 11 = .int .u64 (defVal k num) := hV 11 (by simp)
      rw [h11]
      clear hV h11
      have hb3 := ans_after hf
      have c0 := cell_of hb3 0
      have c1 := cell_of hb3 1
      have c2 := cell_of hb3 2
      have c3 := cell_of hb3 3
      have f0 := frozen_of hb3 0
      have f1 := frozen_of hb3 1
      have f2 := frozen_of hb3 2
      have f3 := frozen_of hb3 3
      simp only [List.getElem?_toArray, List.getElem?_cons_zero, List.getElem?_cons_succ] at c0 c1 c2 c3
      have HBB := Lib.hid hb3
      have HFF := Lib.hid ((((Fr.refl _ w).alloc _).alloc _).trans hf)
      clear hf hb3
      go_wp2_with fail
      exact bodyPost_ret (results_row_tmp2 (P := Tryz.prog) rfl _ _ (w.heap.size + 1) 31 _ (0, 0) _ rfl (heap_setCell_same (heap_setCell_same (heap_setCell_same (heap_setCell_same HBB.out 0 _) 1 _) 2 _) 3 _) Tryz.underlying31 rfl infoAnsS) rfl
        ⟨rfl, (((HFF.out.setCell (fun h => absurd h (by simp)) _).setCell (fun h => absurd h (by simp)) _).setCell (fun h => absurd h (by simp)) _).setCell (fun h => absurd h (by simp)) _⟩
  have hbn : (((n : Nat) : Int) == 0) = false := by simp; omega
  have hpo : ((pos : Int) + n) % 4294967296 = (w32 (pos + n) : Nat) := by unfold w32; omega
  have HPO := Lib.hid hpo
  by_cases hk35 : k = 35
  · have hs : sStep l pos 1 k off num = (.ofNum n, l, 0) := by subst hk35; simp [sStep, hk, h, sEnd, hn0]
    have hbk : (k == 35) = true := by simp [hk35]
    rw [hs]
    clear hs h hk hz hpo hk35
    unfold stepV tdV tupV at *
    go_enter Tryz.func13, Tryz.ntmps13
    go_wp2_with fail
    refine (HSL.out _).mono ?_
    rintro e w' ⟨rfl, rfl⟩
    go_wp2_with fail
    refine (NumSize_calls k _).mono ?_
    rintro e w' ⟨rfl, rfl⟩
    go_wp2_with fail
    rw [HW.out]
    refine (HA.out _).mono ?_
    rintro e w' ⟨rfl, rfl⟩
    go_wp2_with fail
    exact bodyPost_ret (results_row_tmp2 (P := Tryz.prog) rfl _ _ (w.heap.size + 1) 31 _ (0, 0) _ rfl (two_new w _ _) Tryz.underlying31 rfl infoAnsS) rfl ⟨rfl, ((Fr.refl _ w).alloc _).alloc _⟩
  have hbk : (k == 35) = false := by simp [hk35]
  have hs : sStep l pos 1 k off num = sEnd l (numAt l k (w32 (pos + n))) := by simp [sStep, hk, h, hn0, hk35]
  have HP := Lib.hid (fun w => numAt_list l k (w32 (pos + n)) w hl (by unfold w32; omega))
  rw [hs]
  clear hs hpo h hn0 hk hz
  obtain ⟨v, e, h, he⟩ := numAt_ends l k (w32 (pos + n))
  rcases he with rfl | rfl | rfl
  all_goals
    rw [h] at HP ⊢
    clear h
    unfold stepV tdV tupV at *
    go_enter Tryz.func13, Tryz.ntmps13
    go_wp2_with fail
    refine (HSL.out _).mono ?_
    rintro e w' ⟨rfl, rfl⟩
    go_wp2_with fail
    refine (NumSize_calls k _).mono ?_
    rintro e w' ⟨rfl, rfl⟩
    go_wp2_with fail
    rw [HW.out]
    refine (HA.out _).mono ?_
    rintro e w' ⟨rfl, rfl⟩
    go_wp2_with fail
    rw [HPO.out]
    refine (HP.out _).mono ?_
    rintro e w' ⟨rfl, rfl⟩
    go_wp2_with fail
    exact bodyPost_ret (results_row_tmp2 (P := Tryz.prog) rfl _ _ (w.heap.size + 1) 31 _ (0, 0) _ rfl (two_new w _ _) Tryz.underlying31 rfl infoAnsS) rfl ⟨rfl, ((Fr.refl _ w).alloc _).alloc _⟩
end Go.Proofs.YtjfgippolckaeaaGreat
