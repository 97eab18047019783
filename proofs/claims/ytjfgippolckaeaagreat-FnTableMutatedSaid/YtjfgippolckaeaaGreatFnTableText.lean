/- FnTableText: a string behind an offset. -/
import Derived.Test.YtjfgippolckaeaaGreatTabOne
import Derived.Test.YtjfgippolckaeaaGreatTop
import Derived.Test.YtjfgippolckaeaaGreatNumBytes
import Derived.Test.YtjfgippolckaeaaGreatRegInv
import Derived.Laws.Concat
import Derived.OpenShut
namespace Go.Proofs.YtjfgippolckaeaaGreat
open Go.RowKit
set_option linter.unusedVariables false
set_option linter.unusedSimpArgs false

/-! The plain law. -/
def textData (jump : Nat) (t : List UInt8) : List UInt8 := numB 34 jump ++ List.replicate (jump - 4) 0 ++ numB 34 t.length ++ t
theorem numB34 (n : Nat) : (numB 34 n).length = 4 := numB_length 34 n
theorem le34 (n : Nat) (h : n < 4294967296) : le (numB 34 n) = n := by
  have e : numB 34 n = leB 4 n := rfl
  rw [e, le_leB]; omega
theorem textData_length (jump : Nat) (t : List UInt8) (h : 4 ≤ jump) : (textData jump t).length = jump + 4 + t.length := by
  simp [textData, numB34]; omega
/-- The bits of a number that stands behind some bytes. -/
theorem mGet_at (a b : List UInt8) (n p : Nat) (hp : p = a.length) (h : n < 4294967296) : mGet (a ++ (numB 34 n ++ b)) 34 p = some n := by
  subst hp
  unfold mGet
  have hz : numSize 34 = 4 := by decide
  rw [hz, if_neg (by simp [numB34]), List.drop_append_of_le_length (Nat.le_refl _), List.drop_length, List.nil_append, List.take_append_of_le_length (by rw [numB34]; omega), List.take_of_length_le (by rw [numB34]; omega), le34 n h]
theorem mText_data (jump : Nat) (t : List UInt8) (h4 : 4 ≤ jump) (hj : jump < 1000000) (ht : t.length < 1000000) : mText (textData jump t) 0 = some t := by
  have h1 : mGet (textData jump t) 34 0 = some jump := by
    have := mGet_at [] (List.replicate (jump - 4) 0 ++ numB 34 t.length ++ t) jump 0 rfl (by omega)
    simpa [textData] using this
  have h2 : mGet (textData jump t) 34 jump = some t.length := by
    have := mGet_at (numB 34 jump ++ List.replicate (jump - 4) 0) t t.length jump (by simp [numB34]; omega) (by omega)
    simpa [textData] using this
  have hl := textData_length jump t h4
  have w1 : w32 (0 + jump) = jump := by unfold w32; omega
  have w2 : w32 (jump + 4) = jump + 4 := by unfold w32; omega
  have w3 : w32 (jump + 4 + t.length) = jump + 4 + t.length := by unfold w32; omega
  unfold mText mJump
  rw [h1]
  simp only [Option.map_some, Option.bind_some, w1, h2, w2, w3]
  rw [if_neg (by omega)]
  congr 1
  have e : textData jump t = (numB 34 jump ++ List.replicate (jump - 4) 0 ++ numB 34 t.length) ++ t := rfl
  have e2 : (numB 34 jump ++ List.replicate (jump - 4) (0 : UInt8) ++ numB 34 t.length).length = jump + 4 := by simp [numB34]; omega
  rw [e, ← e2, List.drop_append_of_le_length (Nat.le_refl _), List.drop_length, List.nil_append]
  exact List.take_of_length_le (by omega)
theorem mGet_take (l : List UInt8) (k : Int) (p c n : Nat) (h : mGet (l.take c) k p = some n) : mGet l k p = some n ∧ p + numSize k ≤ c := by
  obtain ⟨h0, h1, h2⟩ := mGet_some h
  rw [List.length_take] at h1
  refine ⟨?_, by omega⟩
  unfold mGet
  rw [if_neg (by omega), h2]
  congr 2
  rw [List.drop_take, List.take_take, Nat.min_eq_left (by omega)]
theorem mText_cut (jump c : Nat) (t : List UInt8) (h4 : 4 ≤ jump) (hj : jump < 1000000) (ht : t.length < 1000000) (hc : c < (textData jump t).length) : mText ((textData jump t).take c) 0 = none := by
  have hl := textData_length jump t h4
  cases h : mText ((textData jump t).take c) 0 with
  | none => rfl
  | some x =>
    obtain ⟨q, n, hq, hn, h1, h2, _⟩ := mText_some h
    obtain ⟨j, hg, _, hq2⟩ := mJump_some hq
    have h3 : mGet (textData jump t) 34 0 = some jump := by
      have := mGet_at [] (List.replicate (jump - 4) 0 ++ numB 34 t.length ++ t) jump 0 rfl (by omega)
      simpa [textData] using this
    have hj2 : j = jump := by
      have := (mGet_take _ _ _ _ _ hg).1
      rw [h3] at this; injection this with this; exact this.symm
    have hqj : q = jump := by rw [hq2, hj2]; unfold w32; omega
    have h5 : mGet (textData jump t) 34 jump = some t.length := by
      have := mGet_at (numB 34 jump ++ List.replicate (jump - 4) 0) t t.length jump (by simp [numB34]; omega) (by omega)
      simpa [textData] using this
    have hnl : n = t.length := by
      rw [hqj] at hn
      have := (mGet_take _ _ _ _ _ hn).1
      rw [h5] at this; injection this with this; exact this.symm
    rw [List.length_take, hqj, hnl] at h2
    have w3 : w32 (w32 (jump + 4) + t.length) = jump + 4 + t.length := by unfold w32; omega
    rw [w3] at h2
    omega
theorem mAns_text (l : List UInt8) (op : Int) (t : List UInt8) (h : op = 4 ∨ op = 5) (ht : mText l 0 = some t) : mAns l 0 op 0 0 0 = (Ans.ofText t, l) := by
  rcases h with rfl | rfl <;> simp [mAns, mStep, ht]
theorem mAns_none (l : List UInt8) (h : mText l 0 = none) : mAns l 0 4 0 0 0 = (Ans.dead, l) := by simp [mAns, mStep, h]

/-! The walk. -/
theorem zerosMade (n : Nat) : madeCells #[Value.int .u8 0] n = (cellsOf (List.replicate n 0)).toArray := by
  apply Array.toList_inj.1
  rw [toList_madeCells_one]
  simp [cellsOf]
theorem str_add (a b : List UInt8) : strOf a ++ strOf b = strOf (a ++ b) := by
  apply ByteArray.ext
  simp [strOf]

theorem text_add (J : Nat) (s : ByteArray) : strOf (numB 34 J ++ (List.replicate (J - 4) 0 ++ numB 34 s.size)) ++ s = strOf (textData J s.data.toList) := by
  have h := str_add (numB 34 J ++ (List.replicate (J - 4) 0 ++ numB 34 s.size)) s.data.toList
  rw [strOf_data] at h
  rw [h]
  simp [textData]
theorem ext_take (D : List UInt8) (n : Nat) : (strOf D).extract 0 n = strOf (D.take n) := by
  apply ByteArray.ext
  simp [strOf, ByteArray.data_extract]
/-- One step with all zero but its kind. -/
theorem one_text (l : List UInt8) (op : Int) (a : Ans) (h : (mAns l 0 op 0 0 0).1 = a) (hl : l.length ≤ 1000000000) (w : World) :
    Calls Tryz.prog 10 #[.string (strOf l), .int .u32 0, .agg #[.int .u8 op, .int .u8 0, .int .u32 0, .int .u64 0]] w fun e w' =>
      (∃ r, e = .returned (.tuple #[.agg #[.int .u64 a.num, .string (strOf a.text), .bool a.done, .bool a.pan], .string r])) ∧ Fr0 w w' := by
  refine (tableOne_calls (strOf l) 0 ⟨op, 0, 0, 0⟩ w (by rw [strOf_size]; exact hl) (by omega) (by show 0 < 2 ^ 64; omega)).mono ?_
  rintro e w' ⟨rfl, hf⟩
  subst h
  exact ⟨⟨_, rfl⟩, hf⟩

set_option maxRecDepth 20000 in
set_option maxHeartbeats 8000000 in
theorem FnTableText_walk (s : ByteArray) (gap cut : Int) (w0 : s.size ≤ maxLen) (w1 : (Lit.int .u16 gap).wf = true) (w2 : (Lit.int .u16 cut).wf = true) (w : World) :
    Calls Tryz.prog 5 #[.string s, .int .u16 gap, .int .u16 cut] w fun e w' => e = .returned (.bool true) ∧ Below w.heap.size w w' := by
  unfold maxLen at w0
  obtain ⟨g, rfl, hg⟩ : ∃ n : Nat, gap = n ∧ n < 65536 := by
    have := bounds_u16 w1
    exact ⟨gap.toNat, by omega, by omega⟩
  obtain ⟨c, rfl, hc⟩ : ∃ n : Nat, cut = n ∧ n < 65536 := by
    have := bounds_u16 w2
    exact ⟨cut.toNat, by omega, by omega⟩
  clear w1 w2
  by_cases h1 : 2147483647 < s.size
  · go_enter Tryz.func5, Tryz.ntmps5
    go_wp2_with fail
    go_ret
    exact ⟨rfl, Below.refl _ _⟩
  by_cases h2 : 1000 < s.size
  · go_enter Tryz.func5, Tryz.ntmps5
    go_wp2_with (go_at_call 9; refine (tableAwake_calls _).mono ?_; rintro e w' ⟨rfl, hf⟩)
    go_ret
    exact ⟨rfl, hf.below⟩
  go_enter Tryz.func5, Tryz.ntmps5
  go_wp2_with fail
  obtain ⟨J, hJ⟩ : ∃ J : Nat, J = 4 + g % 500 := ⟨_, rfl⟩
  have hJi : (4 + (g : Int) % 500) = (J : Nat) := by omega
  simp only [hJi]
  have HJ := Lib.hid hJ
  clear hJ hJi
  obtain ⟨i0, hi, hz0, hz1, hz2⟩ := info_parts infoU8
  have hmk : ∀ w, (Instr.makeSlice 52 (.int .u32 (J - 4 : Nat)) (.int .u32 (J - 4 : Nat))).run Tryz.prog w = .ok (.slice (some ⟨w.heap.size, 0, none⟩) (J - 4) (J - 4)) (w.alloc (.cells (cellsOf (List.replicate (J - 4) 0)).toArray 5)) := fun w => by
    have := HJ.out
    have h := run_make (P := Tryz.prog) w 52 5 i0 (.int .u8 0) Tryz.underlying52 hi hz0 .u32 .u32 (J - 4 : Nat) (J - 4 : Nat) (by omega) (by omega) (by rw [hz2]; omega) (by omega)
    rw [hz1] at h
    simp only [Int.toNat_natCast, Nat.mul_one, Value.cells] at h
    rw [zerosMade] at h
    exact h
  have HMK := Lib.hid hmk
  clear hmk hi hz0 hz1 hz2
  refine wp_region_rows2 (by kernel_rfl) [some 26, some 27, some 28, some 29, some 30, some 31, some 32, some 33, some 34, some 35, some 36, some 37, some 38, some 39, some 40, some 8] (fun w' => Fr0 w w') Fr0
    (PhiZ (fun i => if i = 5 then some (J - 4) else none) (fun i => match i with
      | 0 => .int .u32 J | 1 => .int .u64 J | 2 => .string (strOf (numB 34 J)) | 3 => .int .u32 J | 4 => .int .u32 (J - 4 : Nat)
      | 6 => .string (strOf (List.replicate (J - 4) 0)) | 7 => .string (strOf (numB 34 J ++ List.replicate (J - 4) 0)) | 8 => .string s | 9 => .int .i64 s.size | 10 => .int .u64 s.size
      | 11 => .string (strOf (numB 34 s.size)) | 12 => .string (strOf (numB 34 J ++ (List.replicate (J - 4) 0 ++ numB 34 s.size))) | 13 => .string s | _ => .string (strOf (textData J s.data.toList))))
    rfl (by decide) (by kernel_rfl) _ (fun V => by simp only [putAll, Act.put, List.setIfInBounds_toArray, List.set_cons_zero, List.set_cons_succ]; rfl) (PhiZ_keep _ _) (by kernel_rfl) ((Fr.refl _ w).drew) ?_ ?_
  · intro V w1 hS hV
    have h15 : V 15 = .string (strOf (textData J s.data.toList)) := hV 15 (by simp)
    rw [h15]
    clear hV h15
    have hJ := HJ.out
    have hdl := textData_length J s.data.toList (by omega)
    have hsl : s.data.toList.length = s.size := by simp
    rw [hsl] at hdl
    have hT := mText_data J s.data.toList (by omega) (by omega) (by omega)
    have hA1 : ∀ w, Calls Tryz.prog 10 #[.string (strOf (textData J s.data.toList)), .int .u32 0, .agg #[.int .u8 4, .int .u8 0, .int .u32 0, .int .u64 0]] w fun e w' =>
      (∃ r, e = .returned (.tuple #[.agg #[.int .u64 0, .string s, .bool false, .bool false], .string r])) ∧ Fr0 w w' := (one_text _ 4 _ (congrArg Prod.fst (mAns_text (textData J s.data.toList) 4 _ (.inl rfl) hT)) (by omega))
    have HA := Lib.hid hA1; clear hA1
    have hB1 : ∀ w, Calls Tryz.prog 10 #[.string (strOf (textData J s.data.toList)), .int .u32 0, .agg #[.int .u8 5, .int .u8 0, .int .u32 0, .int .u64 0]] w fun e w' =>
      (∃ r, e = .returned (.tuple #[.agg #[.int .u64 0, .string s, .bool false, .bool false], .string r])) ∧ Fr0 w w' := (one_text _ 5 _ (congrArg Prod.fst (mAns_text (textData J s.data.toList) 5 _ (.inr rfl) hT)) (by omega))
    have HB := Lib.hid hB1; clear hB1
    have hC := fun n h => mText_cut J n s.data.toList (by omega) (by omega) (by omega) h
    have hC1 : ∀ n, n < (textData J s.data.toList).length → ∀ w, Calls Tryz.prog 10 #[.string (strOf ((textData J s.data.toList).take n)), .int .u32 0, .agg #[.int .u8 4, .int .u8 0, .int .u32 0, .int .u64 0]] w fun e w' =>
      (∃ r, e = .returned (.tuple #[.agg #[.int .u64 0, .string ⟨#[]⟩, .bool false, .bool true], .string r])) ∧ Fr0 w w' := fun n h => one_text _ 4 _ (congrArg Prod.fst (mAns_none _ (hC n h))) (by rw [List.length_take]; omega)
    have HC := Lib.hid hC1; clear hC1
    have HSZ : RowKit.Hid ((strOf (textData J s.data.toList)).size = J + 4 + s.size) := Lib.hid (by rw [strOf_size, hdl])
    have HS := Lib.hid hS
    clear hC hT hS hsl HMK
    generalize textData J s.data.toList = D at *
    go_wp2_with fail
    refine (HA.out _).mono ?_
    rintro e w2 ⟨⟨r1, rfl⟩, hf1⟩
    go_wp2_with fail
    refine (HB.out _).mono ?_
    rintro e w3 ⟨⟨r2, rfl⟩, hf2⟩
    have hszD := HSZ.out
    have hD0 : ¬ strOf D = ByteArray.empty := by intro h; rw [h] at hszD; simp at hszD; omega
    have hDb : 0 ≤ (c : Int) % ((strOf D).size : Int) ∧ (c : Int) % ((strOf D).size : Int) ≤ ((strOf D).size : Int) := by
      have h0 : (0 : Int) < ((strOf D).size : Int) := by omega
      exact ⟨Int.emod_nonneg _ (by omega), Int.le_of_lt (Int.emod_lt_of_pos _ h0)⟩
    have hcn : c % (strOf D).size < D.length := by rw [hszD, ← hdl]; exact Nat.mod_lt _ (by omega)
    have HCN := Lib.hid hcn
    have hext : (strOf D).extract 0 (c % (strOf D).size) = strOf (D.take (c % (strOf D).size)) := by
      exact ext_take _ _
    have HEX := Lib.hid hext
    have HF1 := Lib.hid hf1
    have HF2 := Lib.hid hf2
    clear hcn hext hszD hf1 hf2 hdl
    go_wp2_with fail
    rw [HEX.out]
    refine (HC.out _ HCN.out _).mono ?_
    rintro e w4 ⟨⟨r3, rfl⟩, hf3⟩
    have hb2 := (HF2.out.block w2.heap.size (by simp) (fun x => x)).trans (heap_alloc_new w2 _)
    have hs3 := HF2.out.size
    have hb3 := (hf3.block w3.heap.size (by simp) (fun x => x)).trans (heap_alloc_new w3 _)
    have hb2' := (hf3.block w2.heap.size (by simp at hs3 ⊢; omega) (fun x => x)).trans ((heap_alloc_old w3 _ _ (by simp at hs3; omega)).trans hb2)
    have a1 : ∀ o, (w4.alloc o).cell? ⟨w2.heap.size, 1, none⟩ = some (.string s) := fun o => by rw [cell_of ((heap_alloc_old w4 o _ (lt_of_block hb2')).trans hb2')]; rfl
    have a3 : ∀ o, (w4.alloc o).cell? ⟨w2.heap.size, 3, none⟩ = some (.bool false) := fun o => by rw [cell_of ((heap_alloc_old w4 o _ (lt_of_block hb2')).trans hb2')]; rfl
    have b1 : ∀ o, (w4.alloc o).cell? ⟨w3.heap.size, 1, none⟩ = some (.string s) := fun o => by rw [cell_of ((heap_alloc_old w4 o _ (lt_of_block hb3)).trans hb3)]; rfl
    have b3 : ∀ o, (w4.alloc o).cell? ⟨w3.heap.size, 3, none⟩ = some (.bool false) := fun o => by rw [cell_of ((heap_alloc_old w4 o _ (lt_of_block hb3)).trans hb3)]; rfl
    have HF4 := Lib.hid ((HS.out.trans HF1.out).trans (((Fr.refl _ w2).alloc _).trans (HF2.out.trans (((Fr.refl _ w3).alloc _).trans hf3))))
    clear hb2 hb3 hb2' hs3 hf3
    go_wp2_with (go_at_call 9; refine (tableAwake_calls _).mono ?_; rintro e w5 ⟨rfl, hf5⟩)
    go_ret
    exact ⟨rfl, Fr0.below ((HF4.out.alloc _).trans hf5)⟩
  · refine ⟨?_, ?_, ?_, ?_, ?_, ?_, ?_, ?_, ?_, ?_, ?_, ?_, ?_, ?_, ?_, ?_, trivial⟩
    · intro V w' hS hV K' hK
      clear hV
      simp only [Act.put, List.setIfInBounds_toArray, List.set_cons_zero, List.set_cons_succ] at hK
      have HK := Lib.hid hK; clear hK
      go_simp
      exact HK.out _ _ hS (Fr.refl _ w') (by first | rfl | exact congrArg _ (u64_nat _ (by have := HJ.out; omega)) | exact congrArg _ (by rw [IntKind.wrap_u32]; have := HJ.out; omega))
    · intro V w' hS hV K' hK
      obtain ⟨h0, _⟩ := hV
      have h0 : V 0 = .int .u32 J := h0
      simp only [Act.put, List.setIfInBounds_toArray, List.set_cons_zero, List.set_cons_succ, h0] at hK
      have HK := Lib.hid hK; clear hK
      go_simp
      exact HK.out _ _ hS (Fr.refl _ w') (by first | rfl | exact congrArg _ (u64_nat _ (by have := HJ.out; omega)) | exact congrArg _ (by rw [IntKind.wrap_u32]; have := HJ.out; omega))
    · intro V w' hS hV K' hK
      obtain ⟨h1, _⟩ := hV
      have h1 : V 1 = .int .u64 J := h1
      simp only [Act.put, List.setIfInBounds_toArray, List.set_cons_zero, List.set_cons_succ, h1] at hK
      have HK := Lib.hid hK; clear hK
      go_simp
      refine (NumBytes_calls 34 J w' (by have := HJ.out; omega)).mono ?_
      rintro e w2 ⟨rfl, hf⟩
      exact HK.out _ _ (hS.trans hf) hf rfl
    · intro V w' hS hV K' hK
      clear hV
      simp only [Act.put, List.setIfInBounds_toArray, List.set_cons_zero, List.set_cons_succ] at hK
      have HK := Lib.hid hK; clear hK
      go_simp
      exact HK.out _ _ hS (Fr.refl _ w') (by first | rfl | exact congrArg _ (u64_nat _ (by have := HJ.out; omega)) | exact congrArg _ (by rw [IntKind.wrap_u32]; have := HJ.out; omega))
    · intro V w' hS hV K' hK
      obtain ⟨h3, _⟩ := hV
      have h3 : V 3 = .int .u32 J := h3
      simp only [Act.put, List.setIfInBounds_toArray, List.set_cons_zero, List.set_cons_succ, h3] at hK
      have HK := Lib.hid hK; clear hK
      go_simp
      exact HK.out _ _ hS (Fr.refl _ w') (by first | rfl | exact congrArg _ (u64_nat _ (by have := HJ.out; omega)) | exact congrArg _ (by rw [IntKind.wrap_u32]; have := HJ.out; omega))
    · intro V w' hS hV K' hK
      obtain ⟨h4, _, _⟩ := hV
      have h4 : V 4 = .int .u32 (J - 4 : Nat) := h4
      simp only [Act.put, List.setIfInBounds_toArray, List.set_cons_zero, List.set_cons_succ, h4] at hK
      have HK := Lib.hid hK; clear hK
      have hmk2 := HMK.out w'
      go_simp
      exact HK.out _ _ (hS.alloc _) ((Fr.refl _ w').alloc _) ⟨_, rfl, heap_alloc_new _ _⟩
    · intro V w' hS hV K' hK
      obtain ⟨h5, _⟩ := hV
      obtain ⟨b, h5, hb⟩ := (show ∃ b, V 5 = .slice (some ⟨b, 0, none⟩) (J - 4) (J - 4) ∧ w'.heap[b]? = some (.cells (cellsOf (List.replicate (J - 4) 0)).toArray 5) from h5)
      simp only [Act.put, List.setIfInBounds_toArray, List.set_cons_zero, List.set_cons_succ, h5] at hK
      have HK := Lib.hid hK; clear hK
      have hcv := run_bytes_string (P := Tryz.prog) (src := 52) (dst := 9) (Mem.of_block hb) (len := J - 4) (cap := J - 4) (by simp) Tryz.underlying52 Tryz.underlying5 Tryz.underlying9
      clear hb
      go_simp
      exact HK.out _ _ hS (Fr.refl _ w') rfl
    · intro V w' hS hV K' hK
      obtain ⟨h2, h6, _⟩ := hV
      have h2 : V 2 = .string (strOf (numB 34 J)) := h2
      have h6 : V 6 = .string (strOf (List.replicate (J - 4) 0)) := h6
      simp only [Act.put, List.setIfInBounds_toArray, List.set_cons_zero, List.set_cons_succ, h2, h6] at hK
      have HK := Lib.hid hK; clear hK
      have hsum : ¬ (9223372036854775807 < (strOf (numB 34 J)).size + (strOf (List.replicate (J - 4) 0)).size) := by have := HJ.out; simp [strOf_size, numB34]; omega
      go_simp
      exact HK.out _ _ hS (Fr.refl _ w') (congrArg Value.string (str_add _ _))
    · intro V w' hS hV K' hK
      clear hV
      simp only [Act.put, List.setIfInBounds_toArray, List.set_cons_zero, List.set_cons_succ] at hK
      have HK := Lib.hid hK; clear hK
      go_simp
      exact HK.out _ _ hS (Fr.refl _ w') (by first | rfl | exact congrArg _ (u64_nat _ (by have := HJ.out; omega)) | exact congrArg _ (by rw [IntKind.wrap_u32]; have := HJ.out; omega))
    · intro V w' hS hV K' hK
      obtain ⟨h8, _⟩ := hV
      have h8 : V 8 = .string s := h8
      simp only [Act.put, List.setIfInBounds_toArray, List.set_cons_zero, List.set_cons_succ, h8] at hK
      have HK := Lib.hid hK; clear hK
      go_simp
      exact HK.out _ _ hS (Fr.refl _ w') (by first | rfl | exact congrArg _ (u64_nat _ (by have := HJ.out; omega)) | exact congrArg _ (by rw [IntKind.wrap_u32]; have := HJ.out; omega))
    · intro V w' hS hV K' hK
      obtain ⟨h9, _⟩ := hV
      have h9 : V 9 = .int .i64 s.size := h9
      simp only [Act.put, List.setIfInBounds_toArray, List.set_cons_zero, List.set_cons_succ, h9] at hK
      have HK := Lib.hid hK; clear hK
      go_simp
      exact HK.out _ _ hS (Fr.refl _ w') (by first | rfl | exact congrArg _ (u64_nat _ (by have := HJ.out; omega)) | exact congrArg _ (by rw [IntKind.wrap_u32]; have := HJ.out; omega))
    · intro V w' hS hV K' hK
      obtain ⟨h10, _⟩ := hV
      have h10 : V 10 = .int .u64 s.size := h10
      simp only [Act.put, List.setIfInBounds_toArray, List.set_cons_zero, List.set_cons_succ, h10] at hK
      have HK := Lib.hid hK; clear hK
      go_simp
      refine (NumBytes_calls 34 s.size w' (by have := HJ.out; omega)).mono ?_
      rintro e w2 ⟨rfl, hf⟩
      exact HK.out _ _ (hS.trans hf) hf rfl
    · intro V w' hS hV K' hK
      obtain ⟨h7, h11, _⟩ := hV
      have h7 : V 7 = .string (strOf (numB 34 J ++ List.replicate (J - 4) 0)) := h7
      have h11 : V 11 = .string (strOf (numB 34 s.size)) := h11
      simp only [Act.put, List.setIfInBounds_toArray, List.set_cons_zero, List.set_cons_succ, h7, h11] at hK
      have HK := Lib.hid hK; clear hK
      have hsum : ¬ (9223372036854775807 < (strOf (numB 34 J ++ List.replicate (J - 4) 0)).size + (strOf (numB 34 s.size)).size) := by have := HJ.out; simp [strOf_size, numB34]; omega
      go_simp
      exact HK.out _ _ hS (Fr.refl _ w') (congrArg Value.string ((str_add _ _).trans (congrArg strOf (List.append_assoc _ _ _))))
    · intro V w' hS hV K' hK
      clear hV
      simp only [Act.put, List.setIfInBounds_toArray, List.set_cons_zero, List.set_cons_succ] at hK
      have HK := Lib.hid hK; clear hK
      go_simp
      exact HK.out _ _ hS (Fr.refl _ w') (by first | rfl | exact congrArg _ (u64_nat _ (by have := HJ.out; omega)) | exact congrArg _ (by rw [IntKind.wrap_u32]; have := HJ.out; omega))
    · intro V w' hS hV K' hK
      obtain ⟨h12, h13, _⟩ := hV
      have h12 : V 12 = .string (strOf (numB 34 J ++ (List.replicate (J - 4) 0 ++ numB 34 s.size))) := h12
      have h13 : V 13 = .string s := h13
      simp only [Act.put, List.setIfInBounds_toArray, List.set_cons_zero, List.set_cons_succ, h12, h13] at hK
      have HK := Lib.hid hK; clear hK
      have hsum : ¬ (9223372036854775807 < (strOf (numB 34 J ++ (List.replicate (J - 4) 0 ++ numB 34 s.size))).size + (s).size) := by have := HJ.out; simp [strOf_size, numB34]; omega
      go_simp
      exact HK.out _ _ hS (Fr.refl _ w') (congrArg Value.string (text_add J s))
    · intro V w' hS hV K' hK
      obtain ⟨h14, _⟩ := hV
      have h14 : V 14 = .string (strOf (textData J s.data.toList)) := h14
      simp only [Act.put, List.setIfInBounds_toArray, List.set_cons_zero, List.set_cons_succ, h14] at hK
      have HK := Lib.hid hK; clear hK
      go_simp
      exact HK.out _ _ hS (Fr.refl _ w') (by first | rfl | exact congrArg _ (u64_nat _ (by have := HJ.out; omega)) | exact congrArg _ (by rw [IntKind.wrap_u32]; have := HJ.out; omega))
end Go.Proofs.YtjfgippolckaeaaGreat
