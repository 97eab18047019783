/- laws.buildAwake. -/
import Derived.Test.YtfplgggepoaajaaGreatToScript
namespace Go.Proofs.YtfplgggepoaajaaGreat
open Go.RowKit
set_option linter.unusedVariables false
set_option linter.unusedSimpArgs false

def stepStr : BS := ⟨12, 0, 0, 0, 0, 0, 0, 0, 0, 0, [97, 98]⟩
def stepEnd : BS := ⟨1, 0, 0, 0, 0, 0, 0, 0, 0, 0, []⟩
theorem run_str1 : (mScript 0 [stepStr]).1 = [⟨8, 8, [], false⟩] := by kernel_rfl
theorem run_str2 : dataOf (mScript 0 [stepStr]).2 = [2, 0, 0, 0, 97, 98, 0, 0] := by kernel_rfl
theorem run_end1 : (mScript 0 [stepEnd]).1 = [BAns.dead] := by kernel_rfl
theorem run_end2 : dataOf (mScript 0 [stepEnd]).2 = [] := by kernel_rfl
theorem sok_str : SOK stepStr := by constructor <;> simp [stepStr]
theorem sok_end : SOK stepEnd := by constructor <;> simp [stepEnd]
theorem safe_str : SafeRun [stepStr] [] (st0 0) := by
  refine ⟨sok_str, trivial, ?_⟩
  split <;> trivial
theorem safe_end : SafeRun [stepEnd] [] (st0 0) := by
  refine ⟨sok_end, trivial, ?_⟩
  split <;> trivial
theorem own_lit {w : World} {t : TypeId} {z n : Nat} {xs : List Value} (hx : xs.length = n * z) (hn : n ≤ 1000000) : (w.alloc (.cells xs.toArray t)).ownsRow 0 t z (.slice (some ⟨w.heap.size, 0, none⟩) n n) n xs := by
  refine ⟨hx, .inr ⟨w.heap.size, n, xs.toArray, rfl, Nat.zero_le _, heap_alloc_new w _, Nat.le_refl _, by unfold maxLen; omega, by simpa using hx, by rw [← hx]; simp⟩⟩
theorem Script_str (w : World) (W : World) (hW : W = w.alloc (.cells (bsC stepStr).toArray 57)) :
    Calls Tryz.prog 21 #[.int .i64 0, .slice (some ⟨w.heap.size, 0, none⟩) 1 1] W fun e w' => ∃ g cap, e = .returned (.tuple #[.slice (some ⟨g, 0, none⟩) 1 cap, .string ⟨#[2, 0, 0, 0, 97, 98, 0, 0]⟩]) ∧ W.heap.size ≤ g ∧ g < w'.heap.size ∧ w'.cell? ⟨g, 0, none⟩ = some (.int .u32 8) ∧ Fr0 W w' := by
  subst hW
  refine (Script_calls 0 (.slice (some ⟨w.heap.size, 0, none⟩) 1 1) [stepStr] _ (by omega) (own_lit (w := w) (t := 57) (z := 11) (n := 1) (xs := bsC stepStr) rfl (by omega)) (by simp) safe_str).mono ?_
  rintro e w' ⟨r, rfl, hown, hf⟩
  rw [run_str1] at hown
  rw [run_str2]
  obtain ⟨g, cap, hv, hgl, hcs⟩ := own_cellsZ (f := bansC) (z := 4) (fun _ => rfl) hown (i := 0) (by simp)
  have hb := (own_block_lt hown g (by rw [hv]; rfl)).1
  subst hv
  exact ⟨g, cap, rfl, hb, hgl, hcs 0 (by omega), hf⟩
theorem Script_end (w : World) (W : World) (hW : W = w.alloc (.cells (bsC stepEnd).toArray 57)) :
    Calls Tryz.prog 21 #[.int .i64 0, .slice (some ⟨w.heap.size, 0, none⟩) 1 1] W fun e w' => ∃ g cap, e = .returned (.tuple #[.slice (some ⟨g, 0, none⟩) 1 cap, .string ⟨#[]⟩]) ∧ W.heap.size ≤ g ∧ g < w'.heap.size ∧ w'.cell? ⟨g, 3, none⟩ = some (.bool true) ∧ Fr0 W w' := by
  subst hW
  refine (Script_calls 0 (.slice (some ⟨w.heap.size, 0, none⟩) 1 1) [stepEnd] _ (by omega) (own_lit (w := w) (t := 57) (z := 11) (n := 1) (xs := bsC stepEnd) rfl (by omega)) (by simp) safe_end).mono ?_
  rintro e w' ⟨r, rfl, hown, hf⟩
  rw [run_end1] at hown
  rw [run_end2]
  obtain ⟨g, cap, hv, hgl, hcs⟩ := own_cellsZ (f := bansC) (z := 4) (fun _ => rfl) hown (i := 0) (by simp)
  have hb := (own_block_lt hown g (by rw [hv]; rfl)).1
  subst hv
  exact ⟨g, cap, rfl, hb, hgl, hcs 3 (by omega), hf⟩
set_option maxRecDepth 20000 in
set_option maxHeartbeats 2000000 in
theorem buildAwake_calls (w : World) : Calls Tryz.prog 12 #[] w fun e w' => e = .returned (.bool true) ∧ Fr0 w w' := by
  have HA := Lib.hid (fun w => Script_str w _ rfl)
  have HB := Lib.hid (fun w => Script_end w _ rfl)
  unfold bsC stepStr at HA
  unfold bsC stepEnd at HB
  dsimp only at HA HB
  go_enter Tryz.func12, Tryz.ntmps12
  go_wp2_with fail
  refine (HA.out w).mono ?_
  rintro e w1 ⟨g, cap, rfl, hg, hgl, c0, hf1⟩
  have HF1 := Lib.hid (((Fr.refl (fun _ => False) w).alloc _).trans hf1)
  clear hf1 hg
  go_wp2_with fail
  refine (HB.out w1).mono ?_
  rintro e w2 ⟨g2, cap2, rfl, hg2, hgl2, c3, hf2⟩
  have hf3 := ((Fr.refl (fun _ => False) w1).alloc _).trans hf2
  have d0 : w2.cell? ⟨g, 0, none⟩ = some (.int .u32 8) := (Fr.cell hf3 (p := ⟨g, 0, none⟩) hgl (fun x => x)).trans c0
  have HF3 := Lib.hid (HF1.out.trans hf3)
  clear hf2 hf3 hg2 c0
  go_wp2_with fail
  go_ret
  exact ⟨rfl, HF3.out⟩
end Go.Proofs.YtfplgggepoaajaaGreat
