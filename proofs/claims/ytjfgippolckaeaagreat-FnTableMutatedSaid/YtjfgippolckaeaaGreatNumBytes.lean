/- spec.NumBytes: the bytes of a number of a kind as a string. -/
import Derived.Test.YtjfgippolckaeaaGreatNum
import Derived.Test.YtjfgippolckaeaaGreatSlice
import Derived.Test.YtjfgippolckaeaaGreatWrite
namespace Go.Proofs.YtjfgippolckaeaaGreat
open Go.RowKit
set_option linter.unusedVariables false
set_option linter.unusedSimpArgs false

theorem leB_snoc (k n : Nat) : leB (k + 1) n = leB k n ++ [UInt8.ofNat (n / 256 ^ k)] := by
  induction k generalizing n with
  | zero => simp [leB]
  | succ k ih =>
    rw [leB, ih, leB, List.cons_append, Nat.div_div_eq_div_mul, Nat.pow_succ, Nat.mul_comm]

/-- The cells behind j rounds: j bytes of the number, the rest zeros. -/
def nbCells (s n j : Nat) : Array Value := (cellsOf (leB j n) ++ List.replicate (s - j) (Value.int .u8 0)).toArray
theorem nbCells_zero (s n : Nat) : nbCells s n 0 = (List.replicate s (Value.int .u8 0)).toArray := by simp [nbCells, leB, cellsOf]
theorem nbCells_full (s n : Nat) : nbCells s n s = (cellsOf (leB s n)).toArray := by simp [nbCells]
theorem nbCells_size (s n j : Nat) (h : j ≤ s) : (nbCells s n j).size = s := by simp [nbCells, cellsOf_length, leB_length]; omega
theorem nbCells_step (s n j : Nat) (h : j < s) : (nbCells s n j).setIfInBounds j (.int .u8 ((UInt8.ofNat (n / 256 ^ j)).toNat)) = nbCells s n (j + 1) := by
  have e : s - j = (s - (j + 1)) + 1 := by omega
  apply Array.toList_inj.1
  simp only [nbCells, Array.toList_setIfInBounds]
  rw [e, List.replicate_succ, leB_snoc]
  have hl : (cellsOf (leB j n)).length = j := by rw [cellsOf_length, leB_length]
  rw [List.set_append_right _ _ (by omega), hl, Nat.sub_self]
  simp [cellsOf]
theorem nb_byte (n j : Nat) : (Value.int .u8 ((UInt8.ofNat (n / 256 ^ j)).toNat)) = .int .u8 ((n : Int) / 2 ^ (8 * j) % 256) := by
  congr 1
  have e : (2 : Int) ^ (8 * j) = ((256 ^ j : Nat) : Int) := by rw [Int.pow_mul]; simp
  rw [e]
  have : ((n : Int) / ((256 ^ j : Nat) : Int)) = ((n / 256 ^ j : Nat) : Int) := by simp
  rw [this, UInt8.toNat_ofNat']
  omega
theorem setCell_new (w : World) (c : Array Value) (t : TypeId) (i : Nat) (v : Value) : (w.alloc (.cells c t)).setCell ⟨w.heap.size, i, none⟩ v = w.alloc (.cells (c.setIfInBounds i v) t) := by
  unfold World.setCell
  show World.mk _ _ _ _ _ = World.mk _ _ _ _ _
  congr 1
  show (w.heap.push _).modify w.heap.size _ = w.heap.push _
  apply Array.ext
  · simp
  · intro k h1 h2
    simp only [Array.getElem_modify, Array.getElem_push]
    split
    · rename_i h; subst h; simp
    · rename_i h; have : k < w.heap.size := by simp at h1; omega
      simp [this]

set_option maxHeartbeats 2000000 in
theorem NumBytes_calls (k : Int) (n : Nat) (w : World) (hn : n < 2 ^ 64) :
    Calls Tryz.prog 12 #[.int .u8 k, .int .u64 n] w fun e w' => e = .returned (.string (strOf (numB k n))) ∧ Fr0 w w' := by
  obtain ⟨i0, hi, hz0, hz1, hz2⟩ := info_parts infoU8
  have hz := numSize_le k
  -- the number that is written
  obtain ⟨m, hm⟩ : ∃ m, m = if k = 0 ∧ n ≠ 0 then 1 else n := ⟨_, rfl⟩
  have hmm : m < 2 ^ 64 := by rw [hm]; split <;> omega
  have hfin : numB k n = leB (numSize k) m := by rw [hm]; rfl
  have hmk := run_make (P := Tryz.prog) w 52 5 i0 (.int .u8 0) Tryz.underlying52 hi hz0 .i64 .i64 (numSize k) (numSize k) (by omega) (by omega) (by rw [hz2]; omega) (by omega)
  rw [hz1] at hmk
  simp only [Int.toNat_natCast, Nat.mul_one, Value.cells] at hmk
  have e0 : madeCells #[Value.int .u8 0] (numSize k) = nbCells (numSize k) m 0 := by
    rw [nbCells_zero]; apply Array.toList_inj.1; rw [toList_madeCells_one]
  rw [e0] at hmk
  clear e0 hz0 hz1 hz2 hi
  generalize hs : numSize k = s at *
  have HS := Lib.hid hs; clear hs
  have HF := Lib.hid hfin; clear hfin
  have HM := Lib.hid hm; clear hm
  have hcv := run_bytes_string (P := Tryz.prog) (w := w.alloc (.cells (nbCells s m s) 5)) (b := w.heap.size) (len := s) (cap := s) (l := leB s m) (Mem.of_block (by rw [heap_alloc_new, nbCells_full])) (leB_length _ _) Tryz.underlying52 Tryz.underlying5 Tryz.underlying9
  by_cases hk : k = 0
  · subst hk
    by_cases hn0 : n = 0
    · subst hn0
      obtain rfl : m = 0 := by rw [HM.out]; simp
      go_enter Tryz.func12, Tryz.ntmps12
      go_wp2_with (first | (go_at_call 17; refine (NumSize_calls _ _).mono ?_; rw [HS.out]; rintro e w' ⟨rfl, rfl⟩))
      go_loopw [18] (fun i wr => ∃ j : Nat, j ≤ s ∧ i = .int .i64 j ∧ wr = w.alloc (.cells (nbCells s 0 j) 5)) (fun i _ => s - (intOf i).toNat)
      case atStart => exact ⟨0, Nat.zero_le _, rfl, rfl⟩
      case round =>
        obtain ⟨j, hj, rfl, rfl⟩ := hrel
        by_cases hlt : j < s
        · have hb := heap_alloc_new w (.cells (nbCells s 0 j) 5)
          obtain ⟨x, c0⟩ := cell_there hb j (by rw [nbCells_size _ _ _ hj]; exact hlt)
          have f0 := frozen_of hb j
          clear hb
          go_wp2
          exact ⟨⟨j + 1, by omega, by go_num, by rw [← nbCells_step _ _ _ hlt, nb_byte]; try (first | rfl | simp)⟩, by simp [intOf]; omega⟩
        · have hje : j = s := by omega
          have HJ := Lib.hid hje; clear hje
          have hcv2 := hcv
          rw [← HJ.out] at hcv2
          clear hcv
          rw [← HJ.out]
          go_wp2
          go_ret
          exact ⟨by rw [HF.out, ← HJ.out]; rfl, (Fr.refl _ _).alloc _⟩
    · have hn1 : ((n : Int) != 0) = true := by simp; omega
      obtain rfl : m = 1 := by rw [HM.out]; simp [hn0]
      go_enter Tryz.func12, Tryz.ntmps12
      go_wp2_with (first | (go_at_call 17; refine (NumSize_calls _ _).mono ?_; rw [HS.out]; rintro e w' ⟨rfl, rfl⟩))
      go_loopw [18] (fun i wr => ∃ j : Nat, j ≤ s ∧ i = .int .i64 j ∧ wr = w.alloc (.cells (nbCells s 1 j) 5)) (fun i _ => s - (intOf i).toNat)
      case atStart => exact ⟨0, Nat.zero_le _, rfl, rfl⟩
      case round =>
        obtain ⟨j, hj, rfl, rfl⟩ := hrel
        by_cases hlt : j < s
        · have hb := heap_alloc_new w (.cells (nbCells s 1 j) 5)
          obtain ⟨x, c0⟩ := cell_there hb j (by rw [nbCells_size _ _ _ hj]; exact hlt)
          have f0 := frozen_of hb j
          clear hb
          go_wp2
          exact ⟨⟨j + 1, by omega, by go_num, by rw [← nbCells_step _ _ _ hlt, nb_byte]; try (first | rfl | simp)⟩, by simp [intOf]; omega⟩
        · have hje : j = s := by omega
          have HJ := Lib.hid hje; clear hje
          have hcv2 := hcv
          rw [← HJ.out] at hcv2
          clear hcv
          rw [← HJ.out]
          go_wp2
          go_ret
          exact ⟨by rw [HF.out, ← HJ.out]; rfl, (Fr.refl _ _).alloc _⟩
  · have hk1 : (k == 0) = false := by simp [hk]
    obtain rfl : m = n := by rw [HM.out, if_neg (by simp [hk])]
    go_enter Tryz.func12, Tryz.ntmps12
    go_wp2_with (first | (go_at_call 17; refine (NumSize_calls _ _).mono ?_; rw [HS.out]; rintro e w' ⟨rfl, rfl⟩))
    go_loopw [18] (fun i wr => ∃ j : Nat, j ≤ s ∧ i = .int .i64 j ∧ wr = w.alloc (.cells (nbCells s m j) 5)) (fun i _ => s - (intOf i).toNat)
    case atStart => exact ⟨0, Nat.zero_le _, rfl, rfl⟩
    case round =>
      obtain ⟨j, hj, rfl, rfl⟩ := hrel
      by_cases hlt : j < s
      · have hb := heap_alloc_new w (.cells (nbCells s m j) 5)
        obtain ⟨x, c0⟩ := cell_there hb j (by rw [nbCells_size _ _ _ hj]; exact hlt)
        have f0 := frozen_of hb j
        clear hb
        go_wp2
        exact ⟨⟨j + 1, by omega, by go_num, by rw [← nbCells_step _ _ _ hlt, nb_byte]; try (first | rfl | simp)⟩, by simp [intOf]; omega⟩
      · have hje : j = s := by omega
        have HJ := Lib.hid hje; clear hje
        have hcv2 := hcv
        rw [← HJ.out] at hcv2
        clear hcv
        rw [← HJ.out]
        go_wp2
        go_ret
        exact ⟨by rw [HF.out, ← HJ.out]; rfl, (Fr.refl _ _).alloc _⟩

end Go.Proofs.YtjfgippolckaeaaGreat
