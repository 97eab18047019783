/- FnTableVector: a vector of numbers behind an offset. -/
import Derived.Test.YtjfgippolckaeaaGreatFnTableText
import Derived.Test.YtjfgippolckaeaaGreatNumRow
import Derived.Test.YtjfgippolckaeaaGreatRegInv2
namespace Go.Proofs.YtjfgippolckaeaaGreat
open Go.RowKit
set_option linter.unusedVariables false
set_option linter.unusedSimpArgs false

def vecHead (at0 J n : Nat) : List UInt8 := List.replicate at0 0 ++ (numB 34 J ++ (List.replicate (J - 4) 0 ++ numB 34 n))
def vecData (at0 J : Nat) (k : Int) (xs : List Nat) : List UInt8 := vecHead at0 J xs.length ++ xs.flatMap (numB k)
theorem vecHead_length (at0 J n : Nat) (h : 4 ≤ J) : (vecHead at0 J n).length = at0 + J + 4 := by simp [vecHead, numB34]; omega
theorem flatB_length (k : Int) (xs : List Nat) : (xs.flatMap (numB k)).length = xs.length * numSize k := by
  induction xs with
  | nil => simp
  | cons x r ih => simp [numB_length, ih, Nat.succ_mul]; omega
theorem vecData_length (at0 J : Nat) (k : Int) (xs : List Nat) (h : 4 ≤ J) : (vecData at0 J k xs).length = at0 + J + 4 + xs.length * numSize k := by
  rw [vecData, List.length_append, vecHead_length _ _ _ h, flatB_length]
theorem vec_jump (at0 J : Nat) (k : Int) (xs : List Nat) (h : 4 ≤ J) (hJ : J < 1000000) (ha : at0 < 256) : mJump (vecData at0 J k xs) at0 = some (at0 + J) := by
  have h1 : mGet (vecData at0 J k xs) 34 at0 = some J := by
    have := mGet_at (List.replicate at0 0) (List.replicate (J - 4) 0 ++ numB 34 xs.length ++ xs.flatMap (numB k)) J at0 (by simp) (by omega)
    simpa [vecData, vecHead] using this
  unfold mJump
  rw [h1]
  simp only [Option.map_some]
  congr 1
  unfold w32; omega
theorem vec_len (at0 J : Nat) (k : Int) (xs : List Nat) (h : 4 ≤ J) (hJ : J < 1000000) (ha : at0 < 256) (hx : xs.length < 1000000) : mGet (vecData at0 J k xs) 34 (at0 + J) = some xs.length := by
  have := mGet_at (List.replicate at0 0 ++ numB 34 J ++ List.replicate (J - 4) 0) (xs.flatMap (numB k)) xs.length (at0 + J) (by simp [numB34]; omega) (by omega)
  simpa [vecData, vecHead] using this
theorem flat_drop (k : Int) : ∀ (xs : List Nat) (i : Nat) (hi : i < xs.length), ((xs.flatMap (numB k)).drop (i * numSize k)).take (numSize k) = numB k xs[i]
  | x :: r, 0, _ => by
    rw [Nat.zero_mul, List.drop_zero, List.flatMap_cons, List.take_append_of_le_length (by rw [numB_length]; exact Nat.le_refl _), List.take_of_length_le (by rw [numB_length]; exact Nat.le_refl _)]
    rfl
  | x :: r, i + 1, hi => by
    have e : (i + 1) * numSize k = numSize k + i * numSize k := by rw [Nat.succ_mul, Nat.add_comm]
    have e2 : (numB k x ++ r.flatMap (numB k)).drop (numSize k) = r.flatMap (numB k) := by
      rw [List.drop_append_of_le_length (by rw [numB_length]; exact Nat.le_refl _), List.drop_of_length_le (by rw [numB_length]; exact Nat.le_refl _), List.nil_append]
    rw [List.flatMap_cons, e, ← List.drop_drop, e2]
    exact flat_drop k r i (by simpa using hi)
theorem vec_num (at0 J : Nat) (k : Int) (xs : List Nat) (h : 4 ≤ J) (i : Nat) (hi : i < xs.length) (hk : 0 < numSize k) : mGet (vecData at0 J k xs) k (at0 + J + 4 + i * numSize k) = some (le (numB k xs[i])) := by
  have hl := vecData_length at0 J k xs h
  have hm : (i + 1) * numSize k ≤ xs.length * numSize k := Nat.mul_le_mul_right _ hi
  rw [Nat.succ_mul] at hm
  unfold mGet
  rw [if_neg (by omega)]
  congr 2
  have hh := vecHead_length at0 J xs.length h
  rw [vecData, ← hh, ← List.drop_drop, List.drop_append_of_le_length (Nat.le_refl _), List.drop_length, List.nil_append]
  exact flat_drop k xs i hi
theorem le_numB_bool2 (k : Int) (n : Nat) : ¬ (k = 0 ∧ 1 < le (numB k n)) := by
  rintro ⟨rfl, h⟩
  have e : numB 0 n = leB 1 (if (0 : Int) = 0 ∧ n ≠ 0 then 1 else n) := rfl
  rw [e, le_leB] at h
  split at h
  · simp at h
  · have : n = 0 := by simp_all
    subst this; simp at h
/-- What is read of a number's own bytes. -/
theorem numAt_own (k : Int) (n : Nat) (hk : 0 < numSize k) : numAt (numB k n) k 0 = (le (numB k n), 0) := by
  unfold numAt
  rw [if_neg (by rw [numB_length]; omega), if_neg]
  · rw [List.drop_zero, List.take_of_length_le (by rw [numB_length]; exact Nat.le_refl _)]
  · rw [List.drop_zero, List.take_of_length_le (by rw [numB_length]; exact Nat.le_refl _)]
    exact le_numB_bool2 k n
theorem mAns_num (at0 J : Nat) (k : Int) (xs : List Nat) (pos : Nat) (h : 4 ≤ J) (i : Nat) (hi : i < xs.length) (hk : 0 < numSize k) : (mAns (vecData at0 J k xs) pos 2 k (at0 + J + 4 + i * numSize k) 0).1 = Ans.ofNum (le (numB k xs[i])) := by
  have := vec_num at0 J k xs h i hi hk
  simp [mAns, mStep, this, numVal_open _ _ (le_numB_bool2 k xs[i])]
theorem mAns_vlen (at0 J : Nat) (k : Int) (xs : List Nat) (h : 4 ≤ J) (hJ : J < 1000000) (ha : at0 < 256) (hx : xs.length < 1000000) : (mAns (vecData at0 J k xs) (at0 / 2) 7 0 (at0 - at0 / 2) 0).1 = Ans.ofNum xs.length := by
  have e : w32 (at0 - at0 / 2 + at0 / 2) = at0 := by unfold w32; omega
  simp [mAns, mStep, e, vec_jump at0 J k xs h hJ ha, vec_len at0 J k xs h hJ ha hx]
theorem mAns_vstart (at0 J : Nat) (k : Int) (xs : List Nat) (h : 4 ≤ J) (hJ : J < 1000000) (ha : at0 < 256) : (mAns (vecData at0 J k xs) (at0 / 2) 6 0 (at0 - at0 / 2) 0).1 = Ans.ofNum (at0 + J + 4) := by
  have e : w32 (at0 - at0 / 2 + at0 / 2) = at0 := by unfold w32; omega
  have e2 : w32 (at0 + J + 4) = at0 + J + 4 := by unfold w32; omega
  simp [mAns, mStep, e, e2, vec_jump at0 J k xs h hJ ha]
/-- One step. -/
theorem one_num (l : List UInt8) (pos : Nat) (op k : Int) (off m : Nat) (h : (mAns l pos op k off 0).1 = Ans.ofNum m) (hl : l.length ≤ 1000000000) (hp : pos < 4294967296) (w : World) :
    Calls Tryz.prog 10 #[.string (strOf l), .int .u32 pos, .agg #[.int .u8 op, .int .u8 k, .int .u32 off, .int .u64 0]] w fun e w' =>
      (∃ r, e = .returned (.tuple #[.agg #[.int .u64 m, .string ⟨#[]⟩, .bool false, .bool false], .string r])) ∧ Fr0 w w' := by
  refine (tableOne_calls (strOf l) pos ⟨op, k, off, 0⟩ w (by rw [strOf_size]; exact hl) hp (by show 0 < 2 ^ 64; omega)).mono ?_
  rintro e w' ⟨rfl, hf⟩
  refine ⟨⟨_, congrArg (fun z : Ans => Ending.returned (.tuple #[.agg (ansC z).toArray, .string _])) h⟩, hf⟩

theorem one_num' (l : List UInt8) (pos : Nat) (op k : Int) (off m : Nat) (h : (mAns l pos op k off 0).1 = Ans.ofNum m) (hl : l.length ≤ 1000000000) (hp : pos < 4294967296) :
    ∃ r, ∀ w, Calls Tryz.prog 10 #[.string (strOf l), .int .u32 pos, .agg #[.int .u8 op, .int .u8 k, .int .u32 off, .int .u64 0]] w fun e w' =>
      e = .returned (.tuple #[.agg #[.int .u64 m, .string ⟨#[]⟩, .bool false, .bool false], .string r]) ∧ Fr0 w w' := by
  refine ⟨strOf (mAns l pos op k off 0).2, fun w => (tableOne_calls (strOf l) pos ⟨op, k, off, 0⟩ w (by rw [strOf_size]; exact hl) hp (by show 0 < 2 ^ 64; omega)).mono ?_⟩
  rintro e w' ⟨rfl, hf⟩
  exact ⟨congrArg (fun z : Ans => Ending.returned (.tuple #[.agg (ansC z).toArray, .string _])) h, hf⟩
theorem cell4 {w : World} {b q : Nat} {v x0 x1 x2 x3 : Value} (h : w.cell? ⟨q, 0, none⟩ = some v) (hne : q < b) : ((((w.setCell ⟨b, 0, none⟩ x0).setCell ⟨b, 1, none⟩ x1).setCell ⟨b, 2, none⟩ x2).setCell ⟨b, 3, none⟩ x3).cell? ⟨q, 0, none⟩ = some v := by
  rw [cell_far _ _ _ _ (by show b ≠ q; omega), cell_far _ _ _ _ (by show b ≠ q; omega), cell_far _ _ _ _ (by show b ≠ q; omega), cell_far _ _ _ _ (by show b ≠ q; omega)]
  exact h
theorem cell4b {w : World} {o : Obj} {q : Nat} {v x0 x1 x2 x3 : Value} (h : w.cell? ⟨q, 0, none⟩ = some v) : (((((w.alloc o).setCell ⟨w.heap.size, 0, none⟩ x0).setCell ⟨w.heap.size, 1, none⟩ x1).setCell ⟨w.heap.size, 2, none⟩ x2).setCell ⟨w.heap.size, 3, none⟩ x3).cell? ⟨q, 0, none⟩ = some v := by
  have hq := World.block_lt_of_cell? _ _ h
  refine cell4 ?_ hq
  have := Fr.cell ((Fr.refl (fun _ => False) w).alloc o) (p := ⟨q, 0, none⟩) hq (fun x => x)
  exact this.trans h
theorem mul_in (j z : Nat) (hj : j ≤ 200) (hz : z ≤ 8) : IntKind.i64.wrap ((j : Int) * (z : Int)) = ((j * z : Nat) : Int) := by
  have hm : j * z ≤ 200 * 8 := Nat.mul_le_mul hj hz
  have e : (j : Int) * (z : Int) = ((j * z : Nat) : Int) := by simp
  rw [e]
  generalize j * z = jz at *
  rw [IntWalk.i64_in _ (by omega)]
theorem mul_in2 (j z : Nat) (hj : j ≤ 200) (hz : z ≤ 8) : IntKind.u32.wrap (((j * z : Nat) : Int)) = ((j * z : Nat) : Int) := by
  have hm : j * z ≤ 200 * 8 := Nat.mul_le_mul hj hz
  generalize j * z = jz at *
  rw [IntWalk.u32_in _ (by omega)]
theorem off_in (Q j z : Nat) (hQ : Q < 1000000) (hj : j ≤ 200) (hz : z ≤ 8) : IntKind.u32.wrap ((Q : Int) + ((j * z : Nat) : Int)) = ((Q + j * z : Nat) : Int) := by
  have hm : j * z ≤ 200 * 8 := Nat.mul_le_mul hj hz
  generalize j * z = jz at *
  rw [IntWalk.u32_in _ (by omega)]; omega
theorem off_eq (Q j z : Nat) (hQ : Q < 1000000) (hj : j ≤ 200) (hz : z ≤ 8) : IntKind.u32.wrap (IntKind.u32.wrap (Q : Int) + IntKind.u32.wrap (IntKind.i64.wrap ((j : Int) * (z : Nat)))) = ((Q + j * z : Nat) : Int) := by
  have hm : j * z ≤ 200 * 8 := Nat.mul_le_mul hj hz
  have e : (j : Int) * (z : Int) = ((j * z : Nat) : Int) := by simp
  rw [e]
  generalize j * z = jz at *
  rw [IntWalk.i64_in _ (by omega), IntWalk.u32_in (Q : Int) (by omega), IntWalk.u32_in (jz : Int) (by omega), IntWalk.u32_in _ (by omega)]
  omega
theorem blk_after {wa wb : World} {o : Obj} (hf : Fr0 (wa.alloc o).drew wb) : wb.heap[wa.heap.size]? = some o := (hf.block wa.heap.size (by show wa.heap.size < (wa.alloc o).heap.size; simp) (fun x => x)).trans (heap_alloc_new wa o)
theorem blk_after2 {wa wb : World} {o : Obj} (hf : Fr0 (wa.drew.alloc o) wb) : wb.heap[wa.heap.size]? = some o := (hf.block wa.heap.size (by show wa.heap.size < (wa.drew.alloc o).heap.size; simp) (fun x => x)).trans (heap_alloc_new wa.drew o)
theorem zmake (n : Nat) (hn : n ≤ 1000000) : ∀ w, (Instr.makeSlice 52 (.int .u32 n) (.int .u32 n)).run Tryz.prog w = .ok (.slice (some ⟨w.heap.size, 0, none⟩) n n) (w.alloc (.cells (cellsOf (List.replicate n 0)).toArray 5)) := fun w => by
  obtain ⟨i0, hi, hz0, hz1, hz2⟩ := info_parts infoU8
  have h := run_make (P := Tryz.prog) w 52 5 i0 (.int .u8 0) Tryz.underlying52 hi hz0 .u32 .u32 n n (by omega) (by omega) (by rw [hz2]; omega) (by omega)
  rw [hz1] at h
  simp only [Int.toNat_natCast, Nat.mul_one, Value.cells] at h
  rw [zerosMade] at h
  exact h

set_option maxRecDepth 20000 in
set_option maxHeartbeats 16000000 in
theorem FnTableVector_walk (k : Int) (ao : Option Addr) (n cap : Nat) (xs : List Nat) (gap pos : Int) (w0 : (Lit.int .u8 k).wf = true) (w2 : (Lit.int .u16 gap).wf = true) (w3 : (Lit.int .u8 pos).wf = true) (w : World)
    (w1 : NumRow w .u64 ao n cap xs) (hx : ∀ x ∈ xs, x < 2 ^ 64) :
    Calls Tryz.prog 6 #[.int .u8 k, .slice ao n cap, .int .u16 gap, .int .u8 pos] w fun e w' => e = .returned (.bool true) ∧ Below w.heap.size w w' := by
  obtain ⟨g, rfl, hg⟩ : ∃ n : Nat, gap = n ∧ n < 65536 := by
    have := bounds_u16 w2
    exact ⟨gap.toNat, by omega, by omega⟩
  obtain ⟨at0, rfl, ha0⟩ : ∃ n : Nat, pos = n ∧ n < 256 := by
    have := bounds_u8 w3
    exact ⟨pos.toNat, by omega, by omega⟩
  have hk0 := bounds_u8 w0
  clear w0 w2 w3
  have HW := Lib.hid w1
  have HX := Lib.hid hx
  clear w1 hx
  have harm : ∀ w, Calls Tryz.prog 16 #[.int .u8 k] w fun e w' => e = .returned (.bool (decide (0 < numSize k))) ∧ w = w' := tableKind_calls k
  by_cases h1 : 2147483647 < n
  · go_enter Tryz.func6, Tryz.ntmps6
    go_wp2_with fail
    go_ret
    exact ⟨rfl, Below.refl _ _⟩
  by_cases h2 : numSize k = 0 ∨ 10 < k ∨ 200 < n
  · have hd : (!decide (0 < numSize k)) = true ∨ ((!decide (0 < numSize k)) = false ∧ 10 < k) ∨ ((!decide (0 < numSize k)) = false ∧ ¬ 10 < k ∧ 200 < n) := by
      by_cases a : numSize k = 0
      · exact .inl (by simp [a])
      · by_cases b : 10 < k
        · exact .inr (.inl ⟨by simp; omega, b⟩)
        · exact .inr (.inr ⟨by simp; omega, b, by omega⟩)
    clear h2
    rcases hd with hd | ⟨hd, hb⟩ | ⟨hd, hb, hc⟩
    all_goals
      go_enter Tryz.func6, Tryz.ntmps6
      go_wp2_with (first | (go_at_call 16; refine (tableKind_calls _ _).mono ?_; rintro e w' ⟨rfl, rfl⟩) | (go_at_call 9; refine (tableAwake_calls _).mono ?_; rintro e w' ⟨rfl, hf⟩))
      go_ret
      exact ⟨rfl, hf.below⟩
  have hd : (!decide (0 < numSize k)) = false := by simp; omega
  have hd2 : ¬ 10 < k := by omega
  have hd3 : ¬ 200 < n := by omega
  have HK : RowKit.Hid (0 < numSize k) := Lib.hid (by omega)
  have HN : RowKit.Hid (n ≤ 200) := Lib.hid (by omega)
  have HA0 : RowKit.Hid (at0 < 256) := Lib.hid ha0
  clear h2 harm
  go_enter Tryz.func6, Tryz.ntmps6
  go_wp2_with (go_at_call 16; refine (tableKind_calls _ _).mono ?_; rintro e w' ⟨rfl, rfl⟩)
  obtain ⟨J, hJ⟩ : ∃ J : Nat, J = 4 + g % 500 := ⟨_, rfl⟩
  have hJi : (4 + (g : Int) % 500) = (J : Nat) := by omega
  simp only [hJi]
  have HJ := Lib.hid hJ
  have HMKA := Lib.hid (zmake at0 (by omega))
  have HMKJ := Lib.hid (zmake (J - 4) (by omega))
  clear hJ hJi
  refine wp_region_rows2 (by kernel_rfl) [some 47, some 48, some 49, some 50, some 51, some 52, some 53, some 54, some 55, some 56, some 57, some 58, some 59, some 60, some 61, some 62, some 63, some 11] (fun w' => Fr0 w w') Fr0
    (PhiZ (fun i => if i = 1 then some (at0) else if i = 9 then some (J - 4) else none) (fun i => match i with | 0 => .int .u32 at0 | 2 => .string (strOf (List.replicate at0 0)) | 3 => .int .u32 J | 4 => .int .u64 J | 5 => .string (strOf (numB 34 J)) | 6 => .string (strOf (List.replicate at0 0 ++ numB 34 J)) | 7 => .int .u32 J | 8 => .int .u32 (J - 4 : Nat) | 10 => .string (strOf (List.replicate (J - 4) 0)) | 11 => .string (strOf (List.replicate at0 0 ++ (numB 34 J ++ List.replicate (J - 4) 0))) | 12 => .slice ao n cap | 13 => .int .i64 n | 14 => .int .u64 n | 15 => .string (strOf (numB 34 n)) | 16 => .string (strOf (List.replicate at0 0 ++ (numB 34 J ++ (List.replicate (J - 4) 0 ++ numB 34 n)))) | _ => .string (strOf (List.replicate at0 0 ++ (numB 34 J ++ (List.replicate (J - 4) 0 ++ numB 34 n))))))
    rfl (by decide) (by kernel_rfl) _ (fun V => by simp only [putAll, Act.put, List.setIfInBounds_toArray, List.set_cons_zero, List.set_cons_succ]; rfl) (PhiZ_keep _ _) (by kernel_rfl) ((Fr.refl _ w).drew) ?hend ?hstep
  case hstep =>
    refine ⟨?_, ?_, ?_, ?_, ?_, ?_, ?_, ?_, ?_, ?_, ?_, ?_, ?_, ?_, ?_, ?_, ?_, ?_, trivial⟩
    · intro V w' hS hV K' hK
      clear hV
      simp only [Act.put, List.setIfInBounds_toArray, List.set_cons_zero, List.set_cons_succ] at hK
      have HK := Lib.hid hK; clear hK
      go_simp
      exact HK.out _ _ hS (Fr.refl _ w') (by first | rfl | exact congrArg _ (rfl))
    · intro V w' hS hV K' hK
      obtain ⟨h0, _⟩ := hV
      have h0 : V 0 = .int .u32 at0 := h0
      simp only [Act.put, List.setIfInBounds_toArray, List.set_cons_zero, List.set_cons_succ, h0] at hK
      have HK := Lib.hid hK; clear hK
      have hmk2 := HMKA.out w'
      go_simp
      exact HK.out _ _ (hS.alloc _) ((Fr.refl _ w').alloc _) ⟨_, rfl, heap_alloc_new _ _⟩
    · intro V w' hS hV K' hK
      obtain ⟨h1, _⟩ := hV
      obtain ⟨b, h1, hb⟩ := (show ∃ b, V 1 = .slice (some ⟨b, 0, none⟩) (at0) (at0) ∧ w'.heap[b]? = some (.cells (cellsOf (List.replicate (at0) 0)).toArray 5) from h1)
      simp only [Act.put, List.setIfInBounds_toArray, List.set_cons_zero, List.set_cons_succ, h1] at hK
      have HK := Lib.hid hK; clear hK
      have hcv := run_bytes_string (P := Tryz.prog) (src := 52) (dst := 9) (Mem.of_block hb) (len := at0) (cap := at0) (by simp) Tryz.underlying52 Tryz.underlying5 Tryz.underlying9
      clear hb
      go_simp
      exact HK.out _ _ hS (Fr.refl _ w') rfl
    · intro V w' hS hV K' hK
      clear hV
      simp only [Act.put, List.setIfInBounds_toArray, List.set_cons_zero, List.set_cons_succ] at hK
      have HK := Lib.hid hK; clear hK
      go_simp
      exact HK.out _ _ hS (Fr.refl _ w') (by first | rfl | exact congrArg _ (rfl))
    · intro V w' hS hV K' hK
      obtain ⟨h3, _⟩ := hV
      have h3 : V 3 = .int .u32 J := h3
      simp only [Act.put, List.setIfInBounds_toArray, List.set_cons_zero, List.set_cons_succ, h3] at hK
      have HK := Lib.hid hK; clear hK
      go_simp
      exact HK.out _ _ hS (Fr.refl _ w') (by first | rfl | exact congrArg _ (u64_nat _ (by have := HJ.out; omega)))
    · intro V w' hS hV K' hK
      obtain ⟨h4, _⟩ := hV
      have h4 : V 4 = .int .u64 J := h4
      simp only [Act.put, List.setIfInBounds_toArray, List.set_cons_zero, List.set_cons_succ, h4] at hK
      have HK := Lib.hid hK; clear hK
      go_simp
      refine (NumBytes_calls 34 J w' (by have := HJ.out; omega)).mono ?_
      rintro e w2 ⟨rfl, hf⟩
      exact HK.out _ _ (hS.trans hf) hf rfl
    · intro V w' hS hV K' hK
      obtain ⟨h2, h5, _⟩ := hV
      have h2 : V 2 = .string (strOf (List.replicate at0 0)) := h2
      have h5 : V 5 = .string (strOf (numB 34 J)) := h5
      simp only [Act.put, List.setIfInBounds_toArray, List.set_cons_zero, List.set_cons_succ, h2, h5] at hK
      have HK := Lib.hid hK; clear hK
      have hsum : ¬ (9223372036854775807 < (strOf (List.replicate at0 0)).size + (strOf (numB 34 J)).size) := by have := HJ.out; have := HA0.out; have := HN.out; simp [strOf_size, numB34]; omega
      go_simp
      exact HK.out _ _ hS (Fr.refl _ w') (congrArg Value.string (str_add _ _))
    · intro V w' hS hV K' hK
      clear hV
      simp only [Act.put, List.setIfInBounds_toArray, List.set_cons_zero, List.set_cons_succ] at hK
      have HK := Lib.hid hK; clear hK
      go_simp
      exact HK.out _ _ hS (Fr.refl _ w') (by first | rfl | exact congrArg _ (rfl))
    · intro V w' hS hV K' hK
      obtain ⟨h7, _⟩ := hV
      have h7 : V 7 = .int .u32 J := h7
      simp only [Act.put, List.setIfInBounds_toArray, List.set_cons_zero, List.set_cons_succ, h7] at hK
      have HK := Lib.hid hK; clear hK
      go_simp
      exact HK.out _ _ hS (Fr.refl _ w') (by first | rfl | exact congrArg _ (by rw [IntKind.wrap_u32]; have := HJ.out; omega))
    · intro V w' hS hV K' hK
      obtain ⟨h8, _⟩ := hV
      have h8 : V 8 = .int .u32 (J - 4 : Nat) := h8
      simp only [Act.put, List.setIfInBounds_toArray, List.set_cons_zero, List.set_cons_succ, h8] at hK
      have HK := Lib.hid hK; clear hK
      have hmk2 := HMKJ.out w'
      go_simp
      exact HK.out _ _ (hS.alloc _) ((Fr.refl _ w').alloc _) ⟨_, rfl, heap_alloc_new _ _⟩
    · intro V w' hS hV K' hK
      obtain ⟨h9, _⟩ := hV
      obtain ⟨b, h9, hb⟩ := (show ∃ b, V 9 = .slice (some ⟨b, 0, none⟩) (J - 4) (J - 4) ∧ w'.heap[b]? = some (.cells (cellsOf (List.replicate (J - 4) 0)).toArray 5) from h9)
      simp only [Act.put, List.setIfInBounds_toArray, List.set_cons_zero, List.set_cons_succ, h9] at hK
      have HK := Lib.hid hK; clear hK
      have hcv := run_bytes_string (P := Tryz.prog) (src := 52) (dst := 9) (Mem.of_block hb) (len := J - 4) (cap := J - 4) (by simp) Tryz.underlying52 Tryz.underlying5 Tryz.underlying9
      clear hb
      go_simp
      exact HK.out _ _ hS (Fr.refl _ w') rfl
    · intro V w' hS hV K' hK
      obtain ⟨h6, h10, _⟩ := hV
      have h6 : V 6 = .string (strOf (List.replicate at0 0 ++ numB 34 J)) := h6
      have h10 : V 10 = .string (strOf (List.replicate (J - 4) 0)) := h10
      simp only [Act.put, List.setIfInBounds_toArray, List.set_cons_zero, List.set_cons_succ, h6, h10] at hK
      have HK := Lib.hid hK; clear hK
      have hsum : ¬ (9223372036854775807 < (strOf (List.replicate at0 0 ++ numB 34 J)).size + (strOf (List.replicate (J - 4) 0)).size) := by have := HJ.out; have := HA0.out; have := HN.out; simp [strOf_size, numB34]; omega
      go_simp
      exact HK.out _ _ hS (Fr.refl _ w') (congrArg Value.string ((str_add _ _).trans (congrArg strOf (List.append_assoc _ _ _))))
    · intro V w' hS hV K' hK
      clear hV
      simp only [Act.put, List.setIfInBounds_toArray, List.set_cons_zero, List.set_cons_succ] at hK
      have HK := Lib.hid hK; clear hK
      go_simp
      exact HK.out _ _ hS (Fr.refl _ w') (by first | rfl | exact congrArg _ (rfl))
    · intro V w' hS hV K' hK
      obtain ⟨h12, _⟩ := hV
      have h12 : V 12 = .slice ao n cap := h12
      simp only [Act.put, List.setIfInBounds_toArray, List.set_cons_zero, List.set_cons_succ, h12] at hK
      have HK := Lib.hid hK; clear hK
      go_simp
      exact HK.out _ _ hS (Fr.refl _ w') (by first | rfl | exact congrArg _ (rfl))
    · intro V w' hS hV K' hK
      obtain ⟨h13, _⟩ := hV
      have h13 : V 13 = .int .i64 n := h13
      simp only [Act.put, List.setIfInBounds_toArray, List.set_cons_zero, List.set_cons_succ, h13] at hK
      have HK := Lib.hid hK; clear hK
      go_simp
      exact HK.out _ _ hS (Fr.refl _ w') (by first | rfl | exact congrArg _ (u64_nat _ (by have := HN.out; omega)))
    · intro V w' hS hV K' hK
      obtain ⟨h14, _⟩ := hV
      have h14 : V 14 = .int .u64 n := h14
      simp only [Act.put, List.setIfInBounds_toArray, List.set_cons_zero, List.set_cons_succ, h14] at hK
      have HK := Lib.hid hK; clear hK
      go_simp
      refine (NumBytes_calls 34 n w' (by have := HN.out; omega)).mono ?_
      rintro e w2 ⟨rfl, hf⟩
      exact HK.out _ _ (hS.trans hf) hf rfl
    · intro V w' hS hV K' hK
      obtain ⟨h11, h15, _⟩ := hV
      have h11 : V 11 = .string (strOf (List.replicate at0 0 ++ (numB 34 J ++ List.replicate (J - 4) 0))) := h11
      have h15 : V 15 = .string (strOf (numB 34 n)) := h15
      simp only [Act.put, List.setIfInBounds_toArray, List.set_cons_zero, List.set_cons_succ, h11, h15] at hK
      have HK := Lib.hid hK; clear hK
      have hsum : ¬ (9223372036854775807 < (strOf (List.replicate at0 0 ++ (numB 34 J ++ List.replicate (J - 4) 0))).size + (strOf (numB 34 n)).size) := by have := HJ.out; have := HA0.out; have := HN.out; simp [strOf_size, numB34]; omega
      go_simp
      exact HK.out _ _ hS (Fr.refl _ w') (congrArg Value.string ((str_add _ _).trans (congrArg strOf (by simp only [List.append_assoc]))))
    · intro V w' hS hV K' hK
      obtain ⟨h16, _⟩ := hV
      have h16 : V 16 = .string (strOf (List.replicate at0 0 ++ (numB 34 J ++ (List.replicate (J - 4) 0 ++ numB 34 n)))) := h16
      simp only [Act.put, List.setIfInBounds_toArray, List.set_cons_zero, List.set_cons_succ, h16] at hK
      have HK := Lib.hid hK; clear hK
      go_simp
      exact HK.out _ _ hS (Fr.refl _ w') (by first | rfl | exact congrArg _ (rfl))
  case hend =>
    intro V w1 hS hV
    have h17 : V 17 = .string (strOf (vecHead at0 J n)) := hV 17 (by simp)
    rw [h17]
    clear hV h17 HMKA HMKJ
    go_wp2_with fail
    go_loopw [11, 66] (fun dv iv wr => ∃ i : Nat, i ≤ n ∧ iv = .int .i64 i ∧ dv = .string (strOf (vecHead at0 J n ++ (xs.take i).flatMap (numB k))) ∧ Fr0 w wr)
      (fun _ iv _ => n - (intOf iv).toNat)
    case atStart => exact ⟨0, Nat.zero_le _, rfl, by simp, hS⟩
    case round =>
      obtain ⟨i, hi1, rfl, rfl, hfr⟩ := hrel
      have HS := Lib.hid hfr
      by_cases hlt : i < n
      · obtain ⟨hxl, hrow⟩ := HW.out
        rcases hrow with hn0 | ⟨b, o, rfl, hbl, hc⟩
        · omega
        obtain ⟨x, hxi⟩ : ∃ x, xs[i]? = some x := ⟨xs[i]'(by omega), by simp⟩
        have c0 := (Fr.cell hfr (p := ⟨b, o + i, none⟩) hbl (fun x => x)).trans (hc i x hxi)
        have hxb := HX.out x (List.mem_of_getElem? hxi)
        have htake : (xs.take (i + 1)).flatMap (numB k) = (xs.take i).flatMap (numB k) ++ numB k x := by
          rw [List.take_add_one, hxi, List.flatMap_append]; simp
        have HTK := Lib.hid htake
        have hsum : ¬ (9223372036854775807 < (strOf (vecHead at0 J n ++ (xs.take i).flatMap (numB k))).size + (strOf (numB k x)).size) := by
          have := HJ.out
          have hl := vecHead_length at0 J n (by omega)
          have hz := numSize_le k
          have hm : (min i xs.length) * numSize k ≤ 200 * 8 := Nat.mul_le_mul (by omega) hz
          rw [strOf_size, strOf_size, List.length_append, hl, flatB_length, List.length_take, numB_length]
          omega
        clear hc hxi htake hfr
        go_wp2_with (go_at_call 12; refine (NumBytes_calls k x _ hxb).mono ?_; rintro e w2 ⟨rfl, hf2⟩)
        go_roundw
        case rel =>
          (repeat apply Exists.intro)
          refine ⟨?_, rfl⟩
          exact ⟨i + 1, by omega, by go_num, congrArg Value.string ((str_add _ _).trans (congrArg strOf (by rw [HTK.out, List.append_assoc]))), HS.out.trans hf2⟩
        case measure => simp [intOf]; omega
      · obtain rfl : i = n := by omega
        have hxl := HW.out.1
        have hall : xs.take i = xs := List.take_of_length_le (by omega)
        rw [hall]
        have hD : vecHead at0 J i ++ xs.flatMap (numB k) = vecData at0 J k xs := by rw [vecData, hxl]
        rw [hD]
        have hJ := HJ.out
        have e1 : (at0 : Int) / 2 = ((at0 / 2 : Nat) : Int) := by omega
        have e2 : (at0 : Int) - ((at0 / 2 : Nat) : Int) = ((at0 - at0 / 2 : Nat) : Int) := by omega
        have E1 := Lib.hid e1
        have E2 := Lib.hid e2
        have hdl := vecData_length at0 J k xs (by omega)
        have hz := numSize_le k
        have hm : xs.length * numSize k ≤ 200 * 8 := Nat.mul_le_mul (by omega) hz
        have HL := Lib.hid (one_num _ (at0 / 2) 7 0 (at0 - at0 / 2) i (by rw [mAns_vlen at0 J k xs (by omega) (by omega) ha0 (by omega), hxl]) (by omega) (by omega))
        have HST := Lib.hid (one_num _ (at0 / 2) 6 0 (at0 - at0 / 2) (at0 + J + 4) (mAns_vstart at0 J k xs (by omega) (by omega) ha0) (by omega) (by omega))
        have HNM := Lib.hid (fun j hj => one_num' _ (at0 / 2) 2 k (at0 + J + 4 + j * numSize k) _ (mAns_num at0 J k xs (at0 / 2) (by omega) j hj HK.out) (by omega) (by omega))
        have HXL := Lib.hid hxl
        clear hall hD hdl hm hJ e1 e2 hxl
        generalize vecData at0 J k xs = D at *
        have hqi : ((at0 : Int) + (J : Int) + 4) % 4294967296 = ((at0 + J + 4 : Nat) : Int) := by have := HJ.out; omega
        have HQL : RowKit.Hid (at0 + J + 4 < 1000000) := Lib.hid (by have := HJ.out; omega)
        generalize at0 + J + 4 = Q at *
        go_wp2_with fail
        rw [E1.out, E2.out]
        refine (HL.out _).mono ?_
        rintro e w2 ⟨⟨r1, rfl⟩, hf1⟩
        go_wp2_with fail
        rw [E1.out, E2.out]
        refine (HST.out _).mono ?_
        rintro e w3 ⟨⟨r2, rfl⟩, hf2⟩
        have hb2 := (hf2.block w2.heap.size (by simp) (fun x => x)).trans (heap_alloc_new w2 _)
        have a0 : ∀ o, (w3.alloc o).cell? ⟨w2.heap.size, 0, none⟩ = some (.int .u64 i) := fun o => by rw [cell_of ((heap_alloc_old w3 o _ (lt_of_block hb2)).trans hb2)]; rfl
        have a3 : ∀ o, (w3.alloc o).cell? ⟨w2.heap.size, 3, none⟩ = some (.bool false) := fun o => by rw [cell_of ((heap_alloc_old w3 o _ (lt_of_block hb2)).trans hb2)]; rfl
        have HF3 := Lib.hid (HS.out.trans (hf1.trans (((Fr.refl _ w2).alloc _).trans hf2)))
        clear hb2 hf1 hf2
        go_wp2_with fail
        go_loopw [124] (fun iv wr => ∃ j : Nat, j ≤ i ∧ iv = .int .i64 j ∧ Fr0 w wr ∧ wr.cell? ⟨w3.heap.size, 0, none⟩ = some (.int .u64 Q))
          (fun iv _ => i - (intOf iv).toNat)
        case atStart => exact ⟨0, Nat.zero_le _, rfl, HF3.out.alloc _, by rw [cell_of (heap_alloc_new w3 _)]; rfl⟩
        case round =>
          obtain ⟨j, hj1, rfl, hfr, hq⟩ := hrel
          by_cases hlt : j < i
          · obtain ⟨hxl, hrow⟩ := HW.out
            rcases hrow with hn0 | ⟨b, o, rfl, hbl, hc⟩
            · omega
            have hjx : j < xs.length := by omega
            obtain ⟨x, hxj⟩ : ∃ x, x = xs[j] := ⟨_, rfl⟩
            have hxi : xs[j]? = some x := by rw [hxj]; simp
            have c0 := (Fr.cell hfr (p := ⟨b, o + j, none⟩) hbl (fun x => x)).trans (hc j x hxi)
            have hxb := HX.out x (List.mem_of_getElem? hxi)
            obtain ⟨r, ho⟩ := HNM.out j hjx
            rw [← hxj] at ho
            have HO := Lib.hid ho
            have HAT := Lib.hid (numAt_own k x HK.out)
            have HS := Lib.hid hfr
            have hqb := World.block_lt_of_cell? _ _ hq
            clear hc hxi hxj ho
            go_wp2_with (first | (go_at_call 12; refine (NumBytes_calls k x _ hxb).mono ?_; rintro e w4 ⟨rfl, hf4⟩))
            refine (NumAt_calls (strOf (numB k x)) k 0 w4 (by rw [strOf_size, numB_length]; omega) (by omega)).mono ?_
            rw [strOf_list, HAT.out]
            rintro e w5 ⟨rfl, rfl⟩
            have hq4 := (Fr.cell hf4 (p := ⟨w3.heap.size, 0, none⟩) hqb (fun x => x)).trans hq
            have HS4 := Lib.hid (HS.out.trans hf4)
            clear hf4 hfr hq c0
            go_wp2_with fail
            have HNS := Lib.hid (fun w => NumSize_calls k w)
            have HZ := Lib.hid hz
            have HJ2 : RowKit.Hid (j ≤ 200) := Lib.hid (by have := HN.out; omega)
            have HQ4 := Lib.hid hq4
            have hbq := World.block_lt_of_cell? _ _ hq4
            have HBQ := Lib.hid hbq
            have HCQ : RowKit.Hid (∀ w', Fr0 w4 w' → w'.cell? ⟨w3.heap.size, 0, none⟩ = some (.int .u64 Q)) := Lib.hid (fun w' hf => (Fr.cell hf (p := ⟨w3.heap.size, 0, none⟩) hbq (fun x => x)).trans hq4)
            clear hq4 hz hbq
            generalize le (numB k x) = nv at *
            refine wp_region_rows4 (by kernel_rfl) [some 138, some 139, some 140, some 141, some 142, some 143, some 144, some 145, some 146, some 147, some 148, some 149, some 150, some 151, some 137, some 152, some 153, some 23, none, some 24] (fun w' => Fr0 w4 w') (FrC (w4.heap.size) (.cells #[.int .u64 nv, .string ⟨#[]⟩, .bool false, .bool false] 31)) (fun i => if i = 18 then 17 else i)
              (PhiC (w4.heap.size) (fun i => match i with | 0 => .string (strOf D) | 1 => .int .u32 (at0 / 2 : Nat) | 2 => .int .u8 k | 3 => .pointer (some ⟨w3.heap.size, 0, none⟩) | 4 => .int .u64 Q | 5 => .int .u32 Q | 6 => .int .i64 j | 7 => .int .u8 k | 8 => .int .i64 (numSize k) | 9 => .int .i64 ((j * numSize k : Nat) : Int) | 10 => .int .u32 ((j * numSize k : Nat) : Int) | 11 => .int .u32 ((Q + j * numSize k : Nat) : Int) | 12 => .agg #[.int .u8 2, .int .u8 k, .int .u32 ((Q + j * numSize k : Nat) : Int), .int .u64 0] | 13 => .tuple #[.agg #[.int .u64 nv, .string ⟨#[]⟩, .bool false, .bool false], .string r] | 14 => .tuple #[.agg #[.int .u64 nv, .string ⟨#[]⟩, .bool false, .bool false], .string r] | 15 => .agg #[.int .u64 nv, .string ⟨#[]⟩, .bool false, .bool false] | 16 => .string r | _ => .string r) 17 18 (.cells #[.int .u64 0, .string ⟨#[]⟩, .bool false, .bool false] 31) (.cells #[.int .u64 nv, .string ⟨#[]⟩, .bool false, .bool false] 31))
              rfl (by decide) (by kernel_rfl) (by kernel_rfl) _ (fun V => by simp only [putAll, Act.put, List.setIfInBounds_toArray, List.set_cons_zero, List.set_cons_succ]; rfl) (PhiC_keep _ _ _ _ _ _) (by kernel_rfl) ((Fr.refl _ w4).drew) ?hend ?hstep
            case hstep =>
              refine ⟨?_, ?_, ?_, ?_, ?_, ?_, ?_, ?_, ?_, ?_, ?_, ?_, ?_, ?_, ?_, ?_, ?_, ?_, ?_, ?_, trivial⟩
              · intro V w' hS hV K' hK
                clear hV
                simp only [Act.put, List.setIfInBounds_toArray, List.set_cons_zero, List.set_cons_succ] at hK
                have HK := Lib.hid hK; clear hK
                go_simp
                exact HK.out _ _ hS (FrC.of (Fr.refl _ w')) (by first | rfl | exact congrArg _ (rfl))
              · intro V w' hS hV K' hK
                clear hV
                simp only [Act.put, List.setIfInBounds_toArray, List.set_cons_zero, List.set_cons_succ] at hK
                have HK := Lib.hid hK; clear hK
                go_simp
                exact HK.out _ _ hS (FrC.of (Fr.refl _ w')) (by first | rfl | exact congrArg _ (E1.out))
              · intro V w' hS hV K' hK
                clear hV
                simp only [Act.put, List.setIfInBounds_toArray, List.set_cons_zero, List.set_cons_succ] at hK
                have HK := Lib.hid hK; clear hK
                go_simp
                exact HK.out _ _ hS (FrC.of (Fr.refl _ w')) (by first | rfl | exact congrArg _ (rfl))
              · intro V w' hS hV K' hK
                clear hV
                simp only [Act.put, List.setIfInBounds_toArray, List.set_cons_zero, List.set_cons_succ] at hK
                have HK := Lib.hid hK; clear hK
                go_simp
                exact HK.out _ _ hS (FrC.of (Fr.refl _ w')) (by first | rfl | exact congrArg _ (rfl))
              · intro V w' hS hV K' hK
                obtain ⟨h3, _⟩ := hV
                have h3 : V 3 = .pointer (some ⟨w3.heap.size, 0, none⟩) := h3
                simp only [Act.put, List.setIfInBounds_toArray, List.set_cons_zero, List.set_cons_succ, h3] at hK
                have HK := Lib.hid hK; clear hK
                have cq := HCQ.out _ hS
                go_simp
                exact HK.out _ _ hS (FrC.of (Fr.refl _ w')) (by first | rfl | exact congrArg _ (rfl))
              · intro V w' hS hV K' hK
                obtain ⟨h4, _⟩ := hV
                have h4 : V 4 = .int .u64 Q := h4
                simp only [Act.put, List.setIfInBounds_toArray, List.set_cons_zero, List.set_cons_succ, h4] at hK
                have HK := Lib.hid hK; clear hK
                go_simp
                exact HK.out _ _ hS (FrC.of (Fr.refl _ w')) (by first | rfl | exact congrArg _ (IntWalk.u32_in _ (by have := HQL.out; omega)))
              · intro V w' hS hV K' hK
                clear hV
                simp only [Act.put, List.setIfInBounds_toArray, List.set_cons_zero, List.set_cons_succ] at hK
                have HK := Lib.hid hK; clear hK
                go_simp
                exact HK.out _ _ hS (FrC.of (Fr.refl _ w')) (by first | rfl | exact congrArg _ (rfl))
              · intro V w' hS hV K' hK
                clear hV
                simp only [Act.put, List.setIfInBounds_toArray, List.set_cons_zero, List.set_cons_succ] at hK
                have HK := Lib.hid hK; clear hK
                go_simp
                exact HK.out _ _ hS (FrC.of (Fr.refl _ w')) (by first | rfl | exact congrArg _ (rfl))
              · intro V w' hS hV K' hK
                obtain ⟨h7, _⟩ := hV
                have h7 : V 7 = .int .u8 k := h7
                simp only [Act.put, List.setIfInBounds_toArray, List.set_cons_zero, List.set_cons_succ, h7] at hK
                have HK := Lib.hid hK; clear hK
                go_simp
                refine (HNS.out w').mono ?_
                rintro e w2 ⟨rfl, rfl⟩
                have hf := Fr.refl (fun _ : Nat => False) w'
                exact HK.out _ _ (hS.trans hf) (FrC.of hf) rfl
              · intro V w' hS hV K' hK
                obtain ⟨h6, h8, _⟩ := hV
                have h6 : V 6 = .int .i64 j := h6
                have h8 : V 8 = .int .i64 (numSize k) := h8
                simp only [Act.put, List.setIfInBounds_toArray, List.set_cons_zero, List.set_cons_succ, h6, h8] at hK
                have HK := Lib.hid hK; clear hK
                go_simp
                exact HK.out _ _ hS (FrC.of (Fr.refl _ w')) (by first | rfl | exact congrArg _ (mul_in j _ HJ2.out HZ.out))
              · intro V w' hS hV K' hK
                obtain ⟨h9, _⟩ := hV
                have h9 : V 9 = .int .i64 ((j * numSize k : Nat) : Int) := h9
                simp only [Act.put, List.setIfInBounds_toArray, List.set_cons_zero, List.set_cons_succ, h9] at hK
                have HK := Lib.hid hK; clear hK
                go_simp
                exact HK.out _ _ hS (FrC.of (Fr.refl _ w')) (by first | rfl | exact congrArg _ (mul_in2 j _ HJ2.out HZ.out))
              · intro V w' hS hV K' hK
                obtain ⟨h5, h10, _⟩ := hV
                have h5 : V 5 = .int .u32 Q := h5
                have h10 : V 10 = .int .u32 ((j * numSize k : Nat) : Int) := h10
                simp only [Act.put, List.setIfInBounds_toArray, List.set_cons_zero, List.set_cons_succ, h5, h10] at hK
                have HK := Lib.hid hK; clear hK
                go_simp
                exact HK.out _ _ hS (FrC.of (Fr.refl _ w')) (by first | rfl | exact congrArg _ (off_in Q j _ HQL.out HJ2.out HZ.out))
              · intro V w' hS hV K' hK
                obtain ⟨h2, h11, _⟩ := hV
                have h2 : V 2 = .int .u8 k := h2
                have h11 : V 11 = .int .u32 ((Q + j * numSize k : Nat) : Int) := h11
                simp only [Act.put, List.setIfInBounds_toArray, List.set_cons_zero, List.set_cons_succ, h2, h11] at hK
                have HK := Lib.hid hK; clear hK
                go_simp
                exact HK.out _ _ hS (FrC.of (Fr.refl _ w')) (by first | rfl | exact congrArg _ (rfl))
              · intro V w' hS hV K' hK
                obtain ⟨h0, h1, h12, _⟩ := hV
                have h0 : V 0 = .string (strOf D) := h0
                have h1 : V 1 = .int .u32 (at0 / 2 : Nat) := h1
                have h12 : V 12 = .agg #[.int .u8 2, .int .u8 k, .int .u32 ((Q + j * numSize k : Nat) : Int), .int .u64 0] := h12
                simp only [Act.put, List.setIfInBounds_toArray, List.set_cons_zero, List.set_cons_succ, h0, h1, h12] at hK
                have HK := Lib.hid hK; clear hK
                go_simp
                refine (HO.out w').mono ?_
                rintro e w2 ⟨rfl, hf⟩
                exact HK.out _ _ (hS.trans hf) (FrC.of hf) rfl
              · intro V w' hS hV K' hK
                obtain ⟨h13, _⟩ := hV
                have h13 : V 13 = .tuple #[.agg #[.int .u64 nv, .string ⟨#[]⟩, .bool false, .bool false], .string r] := h13
                simp only [Act.put, List.setIfInBounds_toArray, List.set_cons_zero, List.set_cons_succ, h13] at hK
                have HK := Lib.hid hK; clear hK
                go_simp
                exact HK.out _ _ hS (FrC.of (Fr.refl _ w')) (by first | rfl | exact congrArg _ (rfl))
              · intro V w' hS hV K' hK
                obtain ⟨h14, _⟩ := hV
                have h14 : V 14 = .tuple #[.agg #[.int .u64 nv, .string ⟨#[]⟩, .bool false, .bool false], .string r] := h14
                simp only [Act.put, List.setIfInBounds_toArray, List.set_cons_zero, List.set_cons_succ, h14] at hK
                have HK := Lib.hid hK; clear hK
                go_simp
                exact HK.out _ _ hS (FrC.of (Fr.refl _ w')) (by first | rfl | exact congrArg _ (rfl))
              · intro V w' hS hV K' hK
                obtain ⟨h14, _⟩ := hV
                have h14 : V 14 = .tuple #[.agg #[.int .u64 nv, .string ⟨#[]⟩, .bool false, .bool false], .string r] := h14
                simp only [Act.put, List.setIfInBounds_toArray, List.set_cons_zero, List.set_cons_succ, h14] at hK
                have HK := Lib.hid hK; clear hK
                go_simp
                exact HK.out _ _ hS (FrC.of (Fr.refl _ w')) (by first | rfl | exact congrArg _ (rfl))
              · intro V w' hS hV K' hK
                clear hV
                simp only [Act.put, List.setIfInBounds_toArray, List.set_cons_zero, List.set_cons_succ] at hK
                have HK := Lib.hid hK; clear hK
                go_simp
                exact HK.out _ _ (hS.alloc _) (FrC.of ((Fr.refl _ w').alloc _)) ⟨_, rfl, hS.size, .inl (heap_alloc_new _ _)⟩
              · intro V w' hS hV K' hK
                obtain ⟨h17, h15, _⟩ := hV
                obtain ⟨b, h17, hbase, hbz⟩ := (show ∃ b, V 17 = .pointer (some ⟨b, 0, none⟩) ∧ (w4.heap.size) ≤ b ∧ (w'.heap[b]? = some (.cells #[.int .u64 0, .string ⟨#[]⟩, .bool false, .bool false] 31) ∨ w'.heap[b]? = some (.cells #[.int .u64 nv, .string ⟨#[]⟩, .bool false, .bool false] 31)) from h17)
                have h15 : V 15 = .agg #[.int .u64 nv, .string ⟨#[]⟩, .bool false, .bool false] := h15
                simp only [Act.put, List.setIfInBounds_toArray, List.set_cons_zero, List.set_cons_succ, h17, h15] at hK
                have HK := Lib.hid hK; clear hK
                rcases hbz with hb | hb
                all_goals
                  have c0 := cell_of hb 0
                  have c1 := cell_of hb 1
                  have c2 := cell_of hb 2
                  have c3 := cell_of hb 3
                  have f0 := frozen_of hb 0
                  have f1 := frozen_of hb 1
                  have f2 := frozen_of hb 2
                  have f3 := frozen_of hb 3
                  simp only [List.getElem?_toArray, List.getElem?_cons_zero, List.getElem?_cons_succ] at c0 c1 c2 c3
                  have HB := Lib.hid hb; clear hb
                  have HBB := Lib.hid hbase; clear hbase
                  go_simp
                  exact HK.out undef _ ((((hS.setCell (fun h => absurd h (Nat.not_lt.2 HBB.out)) _).setCell (fun h => absurd h (Nat.not_lt.2 HBB.out)) _).setCell (fun h => absurd h (Nat.not_lt.2 HBB.out)) _).setCell (fun h => absurd h (Nat.not_lt.2 HBB.out)) _) (FrC.store4 HBB.out HB.out) ⟨_, h17, HBB.out, store4_heap HB.out⟩
              · intro V w' hS hV K' hK
                obtain ⟨h16, _⟩ := hV
                have h16 : V 16 = .string r := h16
                simp only [Act.put, List.setIfInBounds_toArray, List.set_cons_zero, List.set_cons_succ, h16] at hK
                have HK := Lib.hid hK; clear hK
                go_simp
                exact HK.out _ _ hS (FrC.of (Fr.refl _ w')) (by first | rfl | exact congrArg _ (rfl))
            case hend =>
              intro V w6 hS6 hV
              obtain ⟨b, hb17, hbase, hb17z⟩ := (show ∃ b, V 17 = .pointer (some ⟨b, 0, none⟩) ∧ w4.heap.size ≤ b ∧ (w6.heap[b]? = some (.cells #[.int .u64 0, .string ⟨#[]⟩, .bool false, .bool false] 31) ∨ w6.heap[b]? = some (.cells #[.int .u64 nv, .string ⟨#[]⟩, .bool false, .bool false] 31)) from hV 17 (by simp))
              obtain ⟨b', hb18, _, hbb⟩ := (show ∃ b, V 17 = .pointer (some ⟨b, 0, none⟩) ∧ w4.heap.size ≤ b ∧ w6.heap[b]? = some (.cells #[.int .u64 nv, .string ⟨#[]⟩, .bool false, .bool false] 31) from hV 18 (by simp))
              obtain rfl : b = b' := by rw [hb17] at hb18; simpa using hb18
              rw [hb17]
              have c0 := cell_of hbb 0
              have c3 := cell_of hbb 3
              simp only [List.getElem?_toArray, List.getElem?_cons_zero, List.getElem?_cons_succ] at c0 c3
              have HFIN := Lib.hid (And.intro (HS4.out.trans hS6) (HCQ.out _ hS6))
              clear hV hb17 hb18 hbb hb17z hbase
              go_wp2_with fail
              go_roundw
              case rel =>
                (repeat apply Exists.intro)
                refine ⟨?_, rfl, rfl, rfl, rfl, rfl, rfl, rfl, rfl⟩
                exact ⟨j + 1, by omega, by go_num, HFIN.out.1, HFIN.out.2⟩
              case measure => simp [intOf]; omega
          · go_wp2_with (go_at_call 9; refine (tableAwake_calls _).mono ?_; rintro e w5 ⟨rfl, hf5⟩)
            go_ret
            exact ⟨rfl, Fr0.below (hfr.trans hf5)⟩
end Go.Proofs.YtjfgippolckaeaaGreat
