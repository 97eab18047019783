/- FnBuildForward: an offset leads from where it stands to what it names. -/
import Derived.Test.YtfplgggepoaajaaGreatPlain
import Derived.OpenShut
namespace Go.Proofs.YtfplgggepoaajaaGreat
open Go.RowKit
set_option linter.unusedVariables false
set_option linter.unusedSimpArgs false

def fwS (t : List UInt8) (off : Nat) : List BS := [⟨12, 0, 0, 0, 0, 0, 0, 0, 0, 0, t⟩, ⟨4, 0, 0, 0, 0, off, 0, 0, 0, 0, []⟩]
theorem fw_safe (t : List UInt8) (off : Nat) (ht : t.length ≤ 1000) (ho : off < 2 ^ 32) : SafeRun (fwS t off) [] (st0 0) := by
  refine safe_plain _ _ _ (fun s hs => ?_) (HasVt.start 0)
  simp only [fwS, List.mem_cons, List.mem_nil_iff, or_false] at hs
  rcases hs with rfl | rfl
  · exact ⟨by constructor <;> simp [ht], by simp, by simp, by simp⟩
  · exact ⟨by constructor <;> simp [ho], by simp, by simp, by simp⟩
theorem fw_run (t : List UInt8) (off : Nat) (ht : t.length ≤ 1000) : ∃ L, L ≤ 2000 ∧
    ((L < off ∧ mScript 0 (fwS t off) = ([⟨L, L, [], false⟩, BAns.dead], none)) ∨
     (off ≤ L ∧ ∃ st' a1 rest, mScript 0 (fwS t off) = ([⟨L, L, [], false⟩, a1], some st') ∧ st'.m.bytes = leB 4 (L - off + 4) ++ rest ∧ rest.length = L)) := by
  obtain ⟨k, hk, hb, h4⟩ := text_true (st0 0).m t
  have hl : (((st0 0).m.text t true).bytes).length ≤ 2000 := by
    rw [hb]; simp [leB_length, st0]; omega
  have e1 : mStep (st0 0) ⟨12, 0, 0, 0, 0, 0, 0, 0, 0, 0, t⟩ (offOf ⟨12, 0, 0, 0, 0, 0, 0, 0, 0, 0, t⟩ []) = some (((st0 0).m.text t true).bytes.length, [], { st0 0 with m := (st0 0).m.text t true, nested := false }) := by
    show numN (BSt.created (st0 0) t true) = _
    rw [created_eq _ _ _ rfl]; rfl
  refine ⟨_, hl, ?_⟩
  have e2 := mRunB_cons (rest := [⟨4, 0, 0, 0, 0, off, 0, 0, 0, 0, []⟩]) e1
  have e3 : mScript 0 (fwS t off) = _ := e2
  rw [e3]
  generalize (st0 0).m.text t true = m at *
  by_cases ho : off ≤ m.bytes.length
  · right
    refine ⟨ho, ?_⟩
    obtain ⟨m', hm', hmb⟩ := refer_pos (st := { st0 0 with m := m, nested := false }) h4 ho
    refine ⟨{ st0 0 with m := m', nested := false }, ⟨0, m'.bytes.length, [], false⟩, m.bytes, ?_, hmb, rfl⟩
    have e4 : mStep { st0 0 with m := m, nested := false } ⟨4, 0, 0, 0, 0, off, 0, 0, 0, 0, []⟩ (offOf ⟨4, 0, 0, 0, 0, off, 0, 0, 0, 0, []⟩ ([] ++ [⟨m.bytes.length, m.bytes.length, [], false⟩])) = some (0, [], { st0 0 with m := m', nested := false }) := by
      show unitN (BSt.refer _ off) = _
      rw [hm']; rfl
    rw [mRunB_cons e4]; rfl
  · left
    refine ⟨by omega, ?_⟩
    have e4 : mStep { st0 0 with m := m, nested := false } ⟨4, 0, 0, 0, 0, off, 0, 0, 0, 0, []⟩ (offOf ⟨4, 0, 0, 0, 0, off, 0, 0, 0, 0, []⟩ ([] ++ [⟨m.bytes.length, m.bytes.length, [], false⟩])) = none := by
      show unitN (BSt.refer _ off) = _
      rw [refer_neg h4 (by show m.bytes.length < off; omega)]; rfl
    rw [mRunB_stop e4]; rfl
theorem Run_fw (t : List UInt8) (off : Nat) (ht : t.length ≤ 1000) (ho : off < 2 ^ 32) (w W : World) (hW : W = w.alloc (.cells ((fwS t off).flatMap bsC).toArray 28)) :
    Calls Tryz.prog 14 #[.slice (some ⟨w.heap.size, 0, none⟩) 2 2] W fun e w' => ∃ g cap L D ok, e = .returned (.tuple #[.slice (some ⟨g, 0, none⟩) 2 cap, .string D, .bool ok]) ∧ W.heap.size ≤ g ∧ g < w'.heap.size ∧ w'.cell? ⟨g, 1, none⟩ = some (.int .u32 (L : Nat)) ∧ Fr0 W w' ∧ L ≤ 2000 ∧
      ((L < off ∧ ok = false) ∨ (off ≤ L ∧ ok = true ∧ ∃ rest, D = strOf (leB 4 (L - off + 4) ++ rest) ∧ rest.length = L)) := by
  subst hW
  refine (buildRun_calls (.slice (some ⟨w.heap.size, 0, none⟩) 2 2) (fwS t off) _ (own_lit (w := w) (t := 28) (z := 11) (n := 2) (xs := (fwS t off).flatMap bsC) rfl (by omega)) (by simp [fwS]) (fw_safe t off ht ho)).mono ?_
  rintro e w' ⟨r, rfl, hown, hf⟩
  obtain ⟨L, hL, h⟩ := fw_run t off ht
  rcases h with ⟨ho, hm⟩ | ⟨ho, st', a1, rest, hm, hb, hr⟩
  all_goals
    rw [hm] at hown ⊢
    obtain ⟨g, cap, hv, hgl, hcs⟩ := own_cellsZ (f := bansC) (z := 4) (fun _ => rfl) hown (i := 0) (by simp)
    have hb := (own_block_lt hown g (by rw [hv]; rfl)).1
    subst hv
    refine ⟨g, cap, L, _, _, rfl, hb, hgl, hcs 1 (by omega), hf, hL, ?_⟩
  · exact .inl ⟨ho, rfl⟩
  · exact .inr ⟨ho, rfl, rest, by show strOf st'.m.bytes = _; simp_all, hr⟩
set_option maxRecDepth 20000 in
set_option maxHeartbeats 4000000 in
theorem FnBuildForward_walk (s : ByteArray) (off : Int) (w0 : s.size ≤ maxLen) (w1 : (Lit.int .u32 off).wf = true) (w : World) :
    Calls Tryz.prog 5 #[.string s, .int .u32 off] w fun e w' => e = .returned (.bool true) ∧ Below w.heap.size w w' := by
  unfold maxLen at w0
  obtain ⟨g, rfl, hg⟩ : ∃ n : Nat, off = n ∧ n < 4294967296 := by
    have := (bounds_u32 w1)
    exact ⟨off.toNat, by omega, by omega⟩
  clear w1
  by_cases h1 : 2147483647 < s.size
  · go_enter Tryz.func5, Tryz.ntmps5
    go_wp2_with fail
    go_ret
    exact ⟨rfl, Below.refl _ _⟩
  by_cases h2 : 1000 < s.size
  · go_enter Tryz.func5, Tryz.ntmps5
    go_wp2_with (go_at_call 12; refine (buildAwake_calls _).mono ?_; rintro e w' ⟨rfl, hf⟩)
    go_ret
    exact ⟨rfl, hf.below⟩
  have HR := Lib.hid (fun w => Run_fw s.data.toList g (by rw [Array.length_toList]; show s.size ≤ 1000; omega) hg w _ rfl)
  unfold fwS at HR
  simp only [List.flatMap_cons, List.flatMap_nil, bsC, List.cons_append, List.nil_append, List.append_nil, strOf_data] at HR
  have HG := Lib.hid hg
  clear hg
  go_enter Tryz.func5, Tryz.ntmps5
  go_wp2_with fail
  refine (HR.out w).mono ?_
  rintro e w1 ⟨g1, cap, L, D, ok, rfl, hg1, hgl, c1, hf1, hL, hcase⟩
  have HF1 := Lib.hid (((Fr.refl (fun _ => False) w).alloc _).trans hf1)
  have HC := Lib.hid hcase
  clear hf1 hg1 hcase
  go_wp2_with fail
  refine (buildAwake_calls _).mono ?_
  rintro e w2 ⟨rfl, hf2⟩
  have d0 : w2.cell? ⟨g1, 1, none⟩ = some (.int .u32 (L : Nat)) := (Fr.cell hf2 (p := ⟨g1, 1, none⟩) hgl (fun x => x)).trans c1
  have HF2 := Lib.hid (HF1.out.trans hf2)
  clear hf2 c1 hgl
  rcases HC.out with ⟨ho, rfl⟩ | ⟨ho, rfl, rest, rfl, hr⟩
  · clear HC
    go_wp2_with fail
    go_ret
    exact ⟨rfl, Fr0.below HF2.out⟩
  · clear HC
    obtain ⟨n, hn⟩ : ∃ n, n = L - g + 4 := ⟨_, rfl⟩
    rw [← hn]
    obtain ⟨x0, x1, x2, x3, hx⟩ : ∃ x0 x1 x2 x3, leB 4 n = [x0, x1, x2, x3] := ⟨_, _, _, _, rfl⟩
    have hle : le [x0, x1, x2, x3] = n := by rw [← hx, le_leB]; have := HG.out; omega
    obtain ⟨D, hD⟩ : ∃ D, D = strOf (leB 4 n ++ rest) := ⟨_, rfl⟩
    rw [hx] at hD
    rw [hx, ← hD]
    have i0 : ∀ w, (Instr.index 9 (.string D) (.int .i64 0)).run Tryz.prog w = .ok (.int .u8 (x0.toNat : Int)) w := fun w => run_str_at hD 0 rfl w
    have i1 : ∀ w, (Instr.index 9 (.string D) (.int .i64 1)).run Tryz.prog w = .ok (.int .u8 (x1.toNat : Int)) w := fun w => run_str_at hD 1 rfl w
    have i2 : ∀ w, (Instr.index 9 (.string D) (.int .i64 2)).run Tryz.prog w = .ok (.int .u8 (x2.toNat : Int)) w := fun w => run_str_at hD 2 rfl w
    have i3 : ∀ w, (Instr.index 9 (.string D) (.int .i64 3)).run Tryz.prog w = .ok (.int .u8 (x3.toNat : Int)) w := fun w => run_str_at hD 3 rfl w
    have b0 : (x0.toNat : Int) ≤ 255 := by have := x0.toNat_lt; omega
    have b1 : (x1.toNat : Int) ≤ 255 := by have := x1.toNat_lt; omega
    have b2 : (x2.toNat : Int) ≤ 255 := by have := x2.toNat_lt; omega
    have b3 : (x3.toNat : Int) ≤ 255 := by have := x3.toNat_lt; omega
    have hsz : D.size = L + 4 := by rw [hD, strOf_size, List.length_append, hr]; simp; omega
    have HN := Lib.hid hn
    clear hx hD hn
    have HX := Lib.hid hr
    clear hr
    go_wp2_with fail
    have hor := u32or4 x0 x1 x2 x3
    rw [hle] at hor
    clear hle
    have hfin : (((L : Int) + 4) == (((n : Nat) : Int) + g) % 4294967296) = true := by rw [beq_iff_eq]; have := HN.out; omega
    go_quiet (fail)
    go_wp2_with fail
    go_ret
    exact ⟨rfl, Fr0.below (HF2.out.drewN _)⟩
end Go.Proofs.YtfplgggepoaajaaGreat
