/- FnBuildScalar: a scalar that is put in front stands there in little-endian bytes. -/
import Derived.Test.YtfplgggepoaajaaGreatRight
namespace Go.Proofs.YtfplgggepoaajaaGreat
open Go.RowKit
set_option linter.unusedVariables false
set_option linter.unusedSimpArgs false

theorem numB_right {k : Int} {n : Nat} (h : Right k n) : numB k n = leB (numSize k) n := by
  unfold numB
  split
  · rename_i hk
    have := h.2.2.1 hk.1
    rw [show n = 1 by omega]
  · rfl
theorem numSize_pos {k : Int} (h0 : 0 ≤ k) (h1 : k ≤ 10) : 1 ≤ numSize k ∧ numSize k ≤ 8 := by
  have := numSize_algn h0 h1
  unfold algn at this
  have := numSize_le k
  omega
theorem ofNat_byte (n j : Nat) : (((UInt8.ofNat (n / 256 ^ j)).toNat : Nat) : Int) = (n : Int) / 2 ^ (8 * j) % 256 := by
  have e : (2 : Int) ^ (8 * j) = ((256 ^ j : Nat) : Int) := by rw [Int.pow_mul]; simp
  rw [e]
  have : ((n : Int) / ((256 ^ j : Nat) : Int)) = ((n / 256 ^ j : Nat) : Int) := by simp
  rw [this, UInt8.toNat_ofNat']
  omega
def scS (k n : Nat) (t : List UInt8) : List BS := [⟨14, 0, 0, 0, 0, 0, 0, 0, 0, 0, t⟩, ⟨2, k, 0, n, 0, 0, 0, 0, 0, 0, []⟩]
theorem sc_safe (k n : Nat) (t : List UInt8) (ht : t.length ≤ 1000) (hn : n < 2 ^ 64) (hr : Right (k : Int) n) : SafeRun (scS k n t) [] (st0 0) := by
  refine safe_plain _ _ _ (fun s hs => ?_) (HasVt.start 0)
  simp only [scS, List.mem_cons, List.mem_nil_iff, or_false] at hs
  rcases hs with rfl | rfl
  · exact ⟨by constructor <;> simp [ht], by simp, by simp, by simp⟩
  · exact ⟨by constructor <;> simp [hr] <;> omega, by simp, by simp, by simp⟩
theorem sc_run (k n : Nat) (t : List UInt8) (ht : t.length ≤ 1000) (hr : Right (k : Int) n) : ∃ L p N st' rest, L ≤ 2000 ∧ p < numSize k ∧ N = numSize k + p + L ∧ N % numSize k = 0 ∧
    mScript 0 (scS k n t) = ([⟨L, L, [], false⟩, ⟨0, N, [], false⟩], some st') ∧ st'.m.bytes = leB (numSize k) n ++ (List.replicate p 0 ++ rest) ∧ rest.length = L := by
  obtain ⟨q, hq, hb, h4⟩ := text_false (st0 0).m t
  have hl : (((st0 0).m.text t false).bytes).length ≤ 2000 := by
    rw [hb]; simp [leB_length, st0]; omega
  have e1 : mStep (st0 0) ⟨14, 0, 0, 0, 0, 0, 0, 0, 0, 0, t⟩ (offOf ⟨14, 0, 0, 0, 0, 0, 0, 0, 0, 0, t⟩ []) = some (((st0 0).m.text t false).bytes.length, [], { st0 0 with m := (st0 0).m.text t false, nested := false }) := by
    show numN (BSt.created (st0 0) t false) = _
    rw [created_eq _ _ _ rfl]; rfl
  have e2 := mRunB_cons (rest := [⟨2, k, 0, n, 0, 0, 0, 0, 0, 0, []⟩]) e1
  have e3 : mScript 0 (scS k n t) = _ := e2
  rw [e3]
  generalize (st0 0).m.text t false = m at *
  have ha : algn (numSize (k : Int)) := numSize_algn hr.1 hr.2.1
  have hm := prep_mod m (numSize (k : Int)) 0 ha
  have hp := m.prep_len (numSize (k : Int)) 0 ha
  refine ⟨m.bytes.length, m.pad (numSize k) 0, _, { st0 0 with m := (m.prep (numSize k) 0).put (numB k n), nested := false }, m.bytes, hl, m.pad_lt _ _ ha, rfl, ?_, ?_, ?_, rfl⟩
  · rw [hp] at hm
    rw [Nat.add_assoc, Nat.add_mod_left]; exact hm
  · have e4 : mStep { st0 0 with m := m, nested := false } ⟨2, k, 0, n, 0, 0, 0, 0, 0, 0, []⟩ (offOf ⟨2, k, 0, n, 0, 0, 0, 0, 0, 0, []⟩ ([] ++ [⟨m.bytes.length, m.bytes.length, [], false⟩])) = some (0, [], { st0 0 with m := (m.prep (numSize k) 0).put (numB k n), nested := false }) := rfl
    rw [mRunB_cons e4]
    have hN : ((m.prep (numSize k) 0).put (numB k n)).bytes.length = numSize k + m.pad (numSize k) 0 + m.bytes.length := by
      show (numB _ _ ++ (List.replicate _ _ ++ m.bytes)).length = _
      rw [List.length_append, numB_length, List.length_append, List.length_replicate]; omega
    rw [← hN]; rfl
  · show numB _ _ ++ (List.replicate _ _ ++ m.bytes) = _
    rw [numB_right hr]
theorem Run_sc (k n : Nat) (t : List UInt8) (ht : t.length ≤ 1000) (hn : n < 2 ^ 64) (hr : Right (k : Int) n) (w W : World) (hW : W = w.alloc (.cells ((scS k n t).flatMap bsC).toArray 28)) :
    Calls Tryz.prog 14 #[.slice (some ⟨w.heap.size, 0, none⟩) 2 2] W fun e w' => ∃ g cap L p N D, e = .returned (.tuple #[.slice (some ⟨g, 0, none⟩) 2 cap, .string D, .bool true]) ∧ W.heap.size ≤ g ∧ g < w'.heap.size ∧ w'.cell? ⟨g, 1, none⟩ = some (.int .u32 (L : Nat)) ∧ w'.cell? ⟨g, 5, none⟩ = some (.int .u32 (N : Nat)) ∧ Fr0 W w' ∧
      L ≤ 2000 ∧ p < numSize k ∧ N = numSize k + p + L ∧ N % numSize k = 0 ∧ D.size = N ∧
      (∀ i, i < numSize k → ∀ w, (Instr.index 9 (.string D) (.int .i64 (i : Nat))).run Tryz.prog w = .ok (.int .u8 ((n : Int) / 2 ^ (8 * i) % 256)) w) ∧
      (∀ i, numSize k ≤ i → i < N - L → ∀ w, (Instr.index 9 (.string D) (.int .i64 (i : Nat))).run Tryz.prog w = .ok (.int .u8 0) w) := by
  subst hW
  refine (buildRun_calls (.slice (some ⟨w.heap.size, 0, none⟩) 2 2) (scS k n t) _ (own_lit (w := w) (t := 28) (z := 11) (n := 2) (xs := (scS k n t).flatMap bsC) rfl (by omega)) (by simp [scS]) (sc_safe k n t ht hn hr)).mono ?_
  rintro e w' ⟨r, rfl, hown, hf⟩
  obtain ⟨L, p, N, st', rest, hL, hp, hN, hNm, hm, hb, hrl⟩ := sc_run k n t ht hr
  rw [hm] at hown ⊢
  obtain ⟨g, cap, hv, hgl, hcs⟩ := own_cellsZ (f := bansC) (z := 4) (fun _ => rfl) hown (i := 0) (by simp)
  obtain ⟨g', cap', hv', hgl', hcs'⟩ := own_cellsZ (f := bansC) (z := 4) (fun _ => rfl) hown (i := 1) (by simp)
  have hbl := (own_block_lt hown g (by rw [hv]; rfl)).1
  subst hv
  injection hv' with e1 _ _
  injection e1 with e1
  injection e1 with e1
  subst e1
  refine ⟨g, cap, L, p, N, strOf st'.m.bytes, rfl, hbl, hgl, hcs 1 (by omega), hcs' 1 (by omega), hf, hL, hp, hN, hNm, ?_, fun i hi w => ?_, fun i hi hi2 w => ?_⟩
  · rw [strOf_size, hb]; simp [leB_length]; omega
  · rw [← ofNat_byte]
    exact run_str_at rfl i (by rw [hb, List.getElem?_append_left (by rw [leB_length]; exact hi), leB_get _ _ _ hi]) w
  · refine run_str_at (x := 0) rfl i ?_ w
    rw [hb, List.getElem?_append_right (by rw [leB_length]; exact hi), leB_length, List.getElem?_append_left (by rw [List.length_replicate]; omega), List.getElem?_replicate, if_pos (by omega)]

set_option maxRecDepth 20000 in
set_option maxHeartbeats 4000000 in
theorem FnBuildScalar_walk (kind n : Int) (s : ByteArray) (w0 : (Lit.int .u8 kind).wf = true) (w1 : (Lit.int .u64 n).wf = true) (w2 : s.size ≤ maxLen) (w : World) :
    Calls Tryz.prog 8 #[.int .u8 kind, .int .u64 n, .string s] w fun e w' => e = .returned (.bool true) ∧ Below w.heap.size w w' := by
  unfold maxLen at w2
  obtain ⟨k, rfl, hk⟩ : ∃ k : Nat, kind = k ∧ k < 256 := by
    have := bounds_u8 w0
    exact ⟨kind.toNat, by omega, by omega⟩
  obtain ⟨n, rfl, hn⟩ : ∃ m : Nat, n = m ∧ m < 2 ^ 64 := by
    have := bounds_u64 w1
    exact ⟨n.toNat, by omega, by omega⟩
  clear w0 w1
  have HSR := Lib.hid (fun w => ScalarRight_calls k n hk hn w)
  by_cases h1 : 2147483647 < s.size
  · go_enter Tryz.func8, Tryz.ntmps8
    go_wp2_with fail
    go_ret
    exact ⟨rfl, Below.refl _ _⟩
  by_cases h2 : rightB k n = false ∨ 1000 < s.size
  · cases hrb : rightB k n with
    | false =>
      rw [hrb] at HSR
      clear hrb
      go_enter Tryz.func8, Tryz.ntmps8
      go_wp2_with (first | (go_at_call 12; refine (buildAwake_calls _).mono ?_; rintro e w' ⟨rfl, hf⟩) | (go_at_call 11; refine (HSR.out _).mono ?_; rintro e w' ⟨rfl, rfl⟩))
      go_ret
      exact ⟨rfl, Fr0.below hf⟩
    | true =>
      rw [hrb] at HSR h2
      have h3 : 1000 < s.size := by simpa using h2
      clear hrb h2
      go_enter Tryz.func8, Tryz.ntmps8
      go_wp2_with (first | (go_at_call 12; refine (buildAwake_calls _).mono ?_; rintro e w' ⟨rfl, hf⟩) | (go_at_call 11; refine (HSR.out _).mono ?_; rintro e w' ⟨rfl, rfl⟩))
      go_ret
      exact ⟨rfl, Fr0.below hf⟩
  have hrb : rightB k n = true := by cases h : rightB k n <;> simp_all
  have h3 : s.size ≤ 1000 := by simp only [not_or] at h2; omega
  have hr := (rightB_iff k n).1 hrb
  rw [hrb] at HSR
  have HSS := Lib.hid (fun w => ScalarSize_calls k (by have := hr.2.1; omega) w)
  have hz := numSize_pos hr.1 hr.2.1
  have HR := Lib.hid (fun w => Run_sc k n s.data.toList (by rw [Array.length_toList]; exact h3) hn hr w _ rfl)
  unfold scS at HR
  simp only [List.flatMap_cons, List.flatMap_nil, bsC, List.cons_append, List.nil_append, List.append_nil, strOf_data] at HR
  have hn2 : n < 18446744073709551616 := hn
  clear hrb h2 hr hn
  generalize numSize (k : Int) = z at *
  go_enter Tryz.func8, Tryz.ntmps8
  go_wp2_with fail
  refine (HSR.out _).mono ?_
  rintro e w' ⟨rfl, rfl⟩
  go_wp2_with fail
  refine (HSS.out _).mono ?_
  rintro e w' ⟨rfl, rfl⟩
  go_wp2_with fail
  refine (HR.out _).mono ?_
  rintro e w1 ⟨g1, cap, L, p, N, D, rfl, hg1, hgl, c1, c5, hf1, hL, hp, hN, hNm, hsz, hix, hiz⟩
  have hz1 := hz.1
  have hz8 := hz.2
  have hNm2 : ((N : Int) % (z : Int)) = 0 := by rw [← Int.natCast_emod, hNm]; rfl
  have hN1 : z ≤ N := by omega
  have hN2 : N < L + 2 * z := by omega
  have hN3 : L + z ≤ N := by omega
  have HNE := Lib.hid hN
  clear hN hNm hz
  have HF1 := Lib.hid (((Fr.refl (fun _ => False) w').alloc _).trans hf1)
  have HIX := Lib.hid hix
  have HIZ := Lib.hid hiz
  clear hf1 hg1 hix hiz
  go_wp2_with fail
  refine (buildAwake_calls _).mono ?_
  rintro e w2 ⟨rfl, hf2⟩
  have d1 : w2.cell? ⟨g1, 1, none⟩ = some (.int .u32 (L : Nat)) := (Fr.cell hf2 (p := ⟨g1, 1, none⟩) hgl (fun x => x)).trans c1
  have d5 : w2.cell? ⟨g1, 5, none⟩ = some (.int .u32 (N : Nat)) := (Fr.cell hf2 (p := ⟨g1, 5, none⟩) hgl (fun x => x)).trans c5
  have HF2 := Lib.hid (HF1.out.trans hf2)
  clear hf2 c1 c5 hgl
  go_wp2_with fail
  go_loopw [82] (fun i wr => ∃ j : Nat, j ≤ z ∧ i = .int .i64 j ∧ Fr0 w' wr ∧ wr.cell? ⟨g1, 1, none⟩ = some (.int .u32 (L : Nat))) (fun i _ => z - (intOf i).toNat)
  case atStart => exact ⟨0, Nat.zero_le _, rfl, HF2.out, d1⟩
  case round =>
    obtain ⟨j, hj, rfl, hf3, d1'⟩ := hrel
    have HF3 := Lib.hid hf3
    clear hf3 HF2 d1 d5
    by_cases hlt : j < z
    · have ij := fun w => HIX.out j hlt w
      go_wp2_with fail
      go_quiet (fail)
      go_wp2_with fail
      exact ⟨⟨j + 1, by omega, by go_num, HF3.out.drewN _, d1'⟩, by simp [intOf]; omega⟩
    · have hje : j = z := by omega
      subst hje
      go_wp2_with fail
      go_loop [12] (fun i => ∃ q : Nat, j ≤ q ∧ q ≤ N - L ∧ i = .int .i64 q) (fun i => N - (intOf i).toNat)
      case atStart => exact ⟨j, Nat.le_refl _, by omega, rfl⟩
      case round =>
        obtain ⟨q, hq0, hq1, rfl⟩ := hrel
        by_cases hlt2 : q < N - L
        · have iz := fun w => HIZ.out q hq0 hlt2 w
          have hq2 : (q : Int) < (N : Int) - (L : Int) := by omega
          go_wp2_with fail
          exact ⟨⟨q + 1, by omega, by omega, by go_num⟩, by simp [intOf]; omega⟩
        · have hq2 : (N : Int) - (L : Int) ≤ (q : Int) := by omega
          go_wp2_with fail
          go_ret
          exact ⟨rfl, Fr0.below HF3.out⟩
end Go.Proofs.YtfplgggepoaajaaGreat
