/- The reference: spec.numPut. -/
import Derived.Test.YtjfgippolckaeaaGreatSpecTab
namespace Go.Proofs.YtjfgippolckaeaaGreat
open Go.RowKit
set_option linter.unusedVariables false
set_option linter.unusedSimpArgs false

/-- Bytes and how their writing ends. -/
def putV (r : List UInt8 × Nat) : Value := .tuple #[.string (strOf r.1), .int .u8 r.2]
set_option maxRecDepth 20000 in
set_option maxHeartbeats 4000000 in
theorem numPut_calls (s : ByteArray) (k : Int) (p n : Nat) (w : World) (hl : s.size ≤ 1000000000) (hp : p < 4294967296) (hn : n < 2 ^ 64) :
    Calls Tryz.prog 23 #[.string s, .int .u8 k, .int .u32 p, .int .u64 n] w fun e w' => e = .returned (putV (sPut s.data.toList k p n)) ∧ Fr0 w w' := by
  have hz := numSize_le k
  by_cases h0 : numSize k = 0 ∨ s.size < p + numSize k
  · have hf : sPut s.data.toList k p n = (s.data.toList, 1) := by
      unfold sPut
      rw [if_pos (by rcases h0 with h | h; exact .inl h; exact .inr (by simpa using h))]
    rw [hf]
    unfold putV
    rw [strOf_data]
    clear hf
    by_cases h1 : numSize k = 0
    · have hb : (((numSize k : Nat) : Int) == 0) = true := by rw [h1]; rfl
      go_enter Tryz.func23, Tryz.ntmps23
      go_wp2_with (go_at_call 17; refine (NumSize_calls _ _).mono ?_; rintro e w' ⟨rfl, rfl⟩)
      go_ret2
      exact ⟨rfl, Fr.refl _ _⟩
    · have h2 := h0.resolve_left h1
      have hb : (((numSize k : Nat) : Int) == 0) = false := by simp; omega
      go_enter Tryz.func23, Tryz.ntmps23
      go_wp2_with (go_at_call 17; refine (NumSize_calls _ _).mono ?_; rintro e w' ⟨rfl, rfl⟩)
      go_ret2
      exact ⟨rfl, Fr.refl _ _⟩
  have h1 : numSize k ≠ 0 := fun h => h0 (.inl h)
  have h2 : ¬ s.size < p + numSize k := fun h => h0 (.inr h)
  have hb : (((numSize k : Nat) : Int) == 0) = false := by simp; omega
  have hf : sPut s.data.toList k p n = (s.data.toList.take p ++ numB k n ++ s.data.toList.drop (p + numSize k), 0) := by
    unfold sPut
    rw [if_neg (by rintro (h | h); exact h1 h; exact h2 (by simpa using h))]
  have hcat : (s.extract 0 p ++ strOf (numB k n)) ++ s.extract (p + numSize k) s.size = strOf (s.data.toList.take p ++ numB k n ++ s.data.toList.drop (p + numSize k)) := by
    apply ByteArray.ext
    simp [strOf]
    exact List.take_of_length_le (by simp)
  have hnbs : (strOf (numB k n)).size = numSize k := by rw [strOf_size, numB_length]
  rw [hf]
  unfold putV
  rw [← hcat]
  clear hf hcat h0
  have HNB := Lib.hid (fun w => NumBytes_calls k n w hn)
  generalize strOf (numB k n) = nb at *
  have HNS := Lib.hid (fun w => NumSize_calls k w)
  generalize numSize k = z at *
  go_enter Tryz.func23, Tryz.ntmps23
  go_wp2_with (go_at_call 17; refine (HNS.out _).mono ?_; rintro e w' ⟨rfl, rfl⟩)
  have HSZ : RowKit.Hid (p + z ≤ s.size ∧ s.size ≤ 1000000000 ∧ nb.size = z ∧ z ≤ 8) := Lib.hid ⟨by omega, hl, hnbs, hz⟩
  have hle : p + z ≤ s.size := by omega
  have hle1 : p ≤ s.size := by omega
  have HX : RowKit.Hid ((s.extract 0 p).size = p ∧ (s.extract (p + z) s.size).size = s.size - (p + z)) := Lib.hid ⟨by rw [ByteArray.size_extract]; omega, by rw [ByteArray.size_extract]; omega⟩
  have HX2 : RowKit.Hid ((s.extract 0 p ++ nb).size = p + z) := Lib.hid (by rw [ByteArray.size_append, HX.out.1, hnbs])
  clear hb h1 h2 hnbs hz hl
  refine wp_region_rows2 (by kernel_rfl) [some 25, some 26, some 27, some 28, some 29, some 30, some 31, some 32, some 33, some 34, some 35, some 36, some 37, some 38, some 8, some 9] (fun w' => Fr0 w w') Fr0
    (PhiZ (fun i => none) (fun i => match i with | 0 => .string s | 1 => .int .u32 p | 2 => .string (s.extract 0 p) | 3 => .int .u8 k | 4 => .int .u64 n | 5 => .string nb | 6 => .string (s.extract 0 p ++ nb) | 7 => .string s | 8 => .int .u32 p | 9 => .int .i64 p | 10 => .int .i64 z | 11 => .int .i64 ((p + z : Nat) : Int) | 12 => .string (s.extract (p + z) s.size) | 13 => .string ((s.extract 0 p ++ nb) ++ s.extract (p + z) s.size) | 14 => .string ((s.extract 0 p ++ nb) ++ s.extract (p + z) s.size) | _ => .int .u8 0))
    rfl (by decide) (by kernel_rfl) _ (fun V => by simp only [putAll, Act.put, List.setIfInBounds_toArray, List.set_cons_zero, List.set_cons_succ]; rfl) (PhiZ_keep _ _) (by kernel_rfl) ((Fr.refl _ w).drew) ?hend ?hstep
  case hstep =>
    refine ⟨?_, ?_, ?_, ?_, ?_, ?_, ?_, ?_, ?_, ?_, ?_, ?_, ?_, ?_, ?_, ?_, trivial⟩
    · intro V w' hS hV K' hK
      clear hV
      simp only [Act.put, List.setIfInBounds_toArray, List.set_cons_zero, List.set_cons_succ] at hK
      have HK := Lib.hid hK; clear hK
      go_simp
      exact HK.out _ _ hS (Fr.refl _ w') (by first | rfl | exact congrArg _ (rfl))
    · intro V w' hS hV K' hK
      clear hV
      simp only [Act.put, List.setIfInBounds_toArray, List.set_cons_zero, List.set_cons_succ] at hK
      have HK := Lib.hid hK; clear hK
      go_simp
      exact HK.out _ _ hS (Fr.refl _ w') (by first | rfl | exact congrArg _ (rfl))
    · intro V w' hS hV K' hK
      obtain ⟨h0, h1, _⟩ := hV
      have h0 : V 0 = .string s := h0
      have h1 : V 1 = .int .u32 p := h1
      simp only [Act.put, List.setIfInBounds_toArray, List.set_cons_zero, List.set_cons_succ, h0, h1] at hK
      have HK := Lib.hid hK; clear hK
      go_simp
      exact HK.out _ _ hS (Fr.refl _ w') (by first | rfl | exact congrArg _ (rfl))
    · intro V w' hS hV K' hK
      clear hV
      simp only [Act.put, List.setIfInBounds_toArray, List.set_cons_zero, List.set_cons_succ] at hK
      have HK := Lib.hid hK; clear hK
      go_simp
      exact HK.out _ _ hS (Fr.refl _ w') (by first | rfl | exact congrArg _ (rfl))
    · intro V w' hS hV K' hK
      clear hV
      simp only [Act.put, List.setIfInBounds_toArray, List.set_cons_zero, List.set_cons_succ] at hK
      have HK := Lib.hid hK; clear hK
      go_simp
      exact HK.out _ _ hS (Fr.refl _ w') (by first | rfl | exact congrArg _ (rfl))
    · intro V w' hS hV K' hK
      obtain ⟨h3, h4, _⟩ := hV
      have h3 : V 3 = .int .u8 k := h3
      have h4 : V 4 = .int .u64 n := h4
      simp only [Act.put, List.setIfInBounds_toArray, List.set_cons_zero, List.set_cons_succ, h3, h4] at hK
      have HK := Lib.hid hK; clear hK
      go_simp
      refine (HNB.out w').mono ?_
      rintro e w2 ⟨rfl, hf⟩
      exact HK.out _ _ (hS.trans hf) hf rfl
    · intro V w' hS hV K' hK
      obtain ⟨h2, h5, _⟩ := hV
      have h2 : V 2 = .string (s.extract 0 p) := h2
      have h5 : V 5 = .string nb := h5
      simp only [Act.put, List.setIfInBounds_toArray, List.set_cons_zero, List.set_cons_succ, h2, h5] at hK
      have HK := Lib.hid hK; clear hK
      have hsum : ¬ (9223372036854775807 < p + nb.size) := by have := HSZ.out; have := HX.out; omega
      go_simp
      exact HK.out _ _ hS (Fr.refl _ w') (congrArg Value.string (rfl))
    · intro V w' hS hV K' hK
      clear hV
      simp only [Act.put, List.setIfInBounds_toArray, List.set_cons_zero, List.set_cons_succ] at hK
      have HK := Lib.hid hK; clear hK
      go_simp
      exact HK.out _ _ hS (Fr.refl _ w') (by first | rfl | exact congrArg _ (rfl))
    · intro V w' hS hV K' hK
      clear hV
      simp only [Act.put, List.setIfInBounds_toArray, List.set_cons_zero, List.set_cons_succ] at hK
      have HK := Lib.hid hK; clear hK
      go_simp
      exact HK.out _ _ hS (Fr.refl _ w') (by first | rfl | exact congrArg _ (rfl))
    · intro V w' hS hV K' hK
      obtain ⟨h8, _⟩ := hV
      have h8 : V 8 = .int .u32 p := h8
      simp only [Act.put, List.setIfInBounds_toArray, List.set_cons_zero, List.set_cons_succ, h8] at hK
      have HK := Lib.hid hK; clear hK
      go_simp
      exact HK.out _ _ hS (Fr.refl _ w') (by first | rfl | exact congrArg _ (IntWalk.i64_in _ (by omega)))
    · intro V w' hS hV K' hK
      clear hV
      simp only [Act.put, List.setIfInBounds_toArray, List.set_cons_zero, List.set_cons_succ] at hK
      have HK := Lib.hid hK; clear hK
      go_simp
      exact HK.out _ _ hS (Fr.refl _ w') (by first | rfl | exact congrArg _ (rfl))
    · intro V w' hS hV K' hK
      obtain ⟨h9, h10, _⟩ := hV
      have h9 : V 9 = .int .i64 p := h9
      have h10 : V 10 = .int .i64 z := h10
      simp only [Act.put, List.setIfInBounds_toArray, List.set_cons_zero, List.set_cons_succ, h9, h10] at hK
      have HK := Lib.hid hK; clear hK
      go_simp
      exact HK.out _ _ hS (Fr.refl _ w') (by first | rfl | exact congrArg _ (by have := HSZ.out; rw [IntWalk.i64_in _ (by omega)]; omega))
    · intro V w' hS hV K' hK
      obtain ⟨h7, h11, _⟩ := hV
      have h7 : V 7 = .string s := h7
      have h11 : V 11 = .int .i64 ((p + z : Nat) : Int) := h11
      simp only [Act.put, List.setIfInBounds_toArray, List.set_cons_zero, List.set_cons_succ, h7, h11] at hK
      have HK := Lib.hid hK; clear hK
      go_simp
      exact HK.out _ _ hS (Fr.refl _ w') (by first | rfl | exact congrArg _ (rfl))
    · intro V w' hS hV K' hK
      obtain ⟨h6, h12, _⟩ := hV
      have h6 : V 6 = .string (s.extract 0 p ++ nb) := h6
      have h12 : V 12 = .string (s.extract (p + z) s.size) := h12
      simp only [Act.put, List.setIfInBounds_toArray, List.set_cons_zero, List.set_cons_succ, h6, h12] at hK
      have HK := Lib.hid hK; clear hK
      have hsum : ¬ (9223372036854775807 < p + nb.size + (s.size - (p + z))) := by have := HSZ.out; have := HX.out; have := HX2.out; omega
      go_simp
      exact HK.out _ _ hS (Fr.refl _ w') (congrArg Value.string (rfl))
    · intro V w' hS hV K' hK
      obtain ⟨h13, _⟩ := hV
      have h13 : V 13 = .string ((s.extract 0 p ++ nb) ++ s.extract (p + z) s.size) := h13
      simp only [Act.put, List.setIfInBounds_toArray, List.set_cons_zero, List.set_cons_succ, h13] at hK
      have HK := Lib.hid hK; clear hK
      go_simp
      exact HK.out _ _ hS (Fr.refl _ w') (by first | rfl | exact congrArg _ (rfl))
    · intro V w' hS hV K' hK
      clear hV
      simp only [Act.put, List.setIfInBounds_toArray, List.set_cons_zero, List.set_cons_succ] at hK
      have HK := Lib.hid hK; clear hK
      go_simp
      exact HK.out _ _ hS (Fr.refl _ w') (by first | rfl | exact congrArg _ (rfl))
  case hend =>
    intro V w1 hS hV
    have h14 : V 14 = .string ((s.extract 0 p ++ nb) ++ s.extract (p + z) s.size) := hV 14 (by simp)
    have h15 : V 15 = .int .u8 0 := hV 15 (by simp)
    rw [h14, h15]
    clear hV h14 h15
    go_wp2_with fail
    go_ret2
    exact ⟨rfl, hS⟩
end Go.Proofs.YtjfgippolckaeaaGreat
