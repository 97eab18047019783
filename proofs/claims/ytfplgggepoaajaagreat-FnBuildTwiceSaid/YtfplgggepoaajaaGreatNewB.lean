/- NewBuilder. -/
import Derived.Test.YtfplgggepoaajaaGreatBRep
namespace Go.Proofs.YtfplgggepoaajaaGreat
open Go.RowKit
set_option linter.unusedVariables false
set_option linter.unusedSimpArgs false
theorem infoU32o : (Tryz.prog.info? 77).map (fun i => (i.zero, i.size, i.bytes)) = some (some (.int .u32 0), 1, 4) := by kernel_rfl
def st0 (n : Nat) : BSt := ⟨⟨n, 1, []⟩, none, 0, [], false, false, none⟩
set_option maxRecDepth 20000 in
set_option maxHeartbeats 4000000 in
theorem NewBuilder_calls (n : Nat) (w : World) (hn : n ≤ 5000) :
    Calls Tryz.prog 28 #[.int .i64 n] w fun e w' => e = .returned (.pointer (some ⟨w.heap.size, 0, none⟩)) ∧ ∃ F', BRep w' w.heap.size F' (st0 n) ∧ Adv w w' [] F' := by
  obtain ⟨i0, hi, hz0, hz1, hz2⟩ := info_parts' infoU8b
  obtain ⟨i1, hj, hy0, hy1, hy2⟩ := info_parts' infoU32o
  have hmk := fun w' => run_make (P := Tryz.prog) w' 49 5 i0 (.int .u8 0) Tryz.underlying49 hi hz0 .i64 .i64 n n (by omega) (by omega) (by rw [hz2]; omega) (by omega)
  rw [hz1] at hmk
  simp only [Int.toNat_natCast, Nat.mul_one, Value.cells] at hmk
  have hmk2 := fun w' => run_make (P := Tryz.prog) w' 79 77 i1 (.int .u32 0) Tryz.underlying79 hj hy0 .i64 .i64 0 16 (by omega) (by omega) (by rw [hy2]; omega) (by omega)
  rw [hy1] at hmk2
  have key : ∀ w', w' = ((w.alloc (.cells (bCells (w.heap.size + 1) n n 1 n ⟨.slice none 0 0, .int .u32 0, .slice (some ⟨w.heap.size + 2, 0, none⟩) 0 16, .bool false, .bool false, .map none⟩) 82)).alloc (.cells (madeCells #[Value.int .u8 0] n) 5)).alloc (.cells (madeCells #[Value.int .u32 0] 16) 77) →
      ∃ F', BRep w' w.heap.size F' (st0 n) ∧ Adv w w' [] F' := by
    rintro w' rfl
    have hs1 : (w.alloc (.cells (bCells (w.heap.size + 1) n n 1 n ⟨.slice none 0 0, .int .u32 0, .slice (some ⟨w.heap.size + 2, 0, none⟩) 0 16, .bool false, .bool false, .map none⟩) 82)).heap.size = w.heap.size + 1 := by rw [size_alloc]
    refine ⟨[w.heap.size, w.heap.size + 1, w.heap.size, w.heap.size + 2, w.heap.size], ⟨w.heap.size + 1, w.heap.size, w.heap.size + 2, w.heap.size, ⟨.slice none 0 0, .int .u32 0, .slice (some ⟨w.heap.size + 2, 0, none⟩) 0 16, .bool false, .bool false, .map none⟩, madeCells #[Value.int .u8 0] n, rfl, ?_, ?_⟩, ?_, ?_⟩
    · have hsz : (madeCells #[Value.int .u8 0] n).size = n := by rw [← Array.length_toList, toList_madeCells_one]; simp
      refine ⟨?_, ?_, by show n + 0 ≤ _; omega, ?_, by show n + 0 ≤ _; omega, by omega, by rw [hsz]; unfold maxLen; omega, ?_, by intro h; rw [hsz]; exact h⟩
      · rw [heap_alloc_old _ _ _ (by simp only [size_alloc]; omega), heap_alloc_old _ _ _ (by simp only [size_alloc]; omega), heap_alloc_new, hsz]; rfl
      · rw [heap_alloc_old _ _ _ (by simp only [size_alloc]; omega)]
        have := heap_alloc_new (w.alloc (.cells (bCells (w.heap.size + 1) n n 1 n ⟨.slice none 0 0, .int .u32 0, .slice (some ⟨w.heap.size + 2, 0, none⟩) 0 16, .bool false, .bool false, .map none⟩) 82)) (.cells (madeCells #[Value.int .u8 0] n) 5)
        rw [hs1] at this; exact this
      · show List.drop n (List.take (n + 0) _) = _
        rw [List.drop_of_length_le (by simp only [List.length_take]; omega)]; rfl
      · intro v hv
        have hv := List.mem_of_mem_take hv
        rw [toList_madeCells_one] at hv
        rw [(List.mem_replicate.1 hv).2]; rfl
    · refine ⟨⟨rfl, rfl⟩, rfl, ⟨madeCells #[Value.int .u32 0] 16, by rw [size_madeCells]; rfl, ?_, by simp [st0], by simp [st0, u32s], by rw [size_madeCells]; decide⟩, rfl, rfl, ⟨rfl, rfl⟩, by omega⟩
      have := heap_alloc_new ((w.alloc (.cells (bCells (w.heap.size + 1) n n 1 n ⟨.slice none 0 0, .int .u32 0, .slice (some ⟨w.heap.size + 2, 0, none⟩) 0 16, .bool false, .bool false, .map none⟩) 82)).alloc (.cells (madeCells #[Value.int .u8 0] n) 5)) (.cells (madeCells #[Value.int .u32 0] 16) 77)
      rw [size_alloc, hs1] at this
      exact this
    · exact (((Fr.refl _ w).alloc _).alloc _).alloc _
    · intro k hk
      simp only [List.mem_cons, List.not_mem_nil, or_false] at hk
      right; omega
  by_cases h0 : n = 0
  · subst h0
    have hmk := fun w' => run_make (P := Tryz.prog) w' 49 5 i0 (.int .u8 0) Tryz.underlying49 hi hz0 .i64 .i64 0 0 (by omega) (by omega) (by rw [hz2]; omega) (by omega)
    rw [hz1] at hmk
    show Calls Tryz.prog 28 #[.int .i64 0] w _
    have key := Lib.hid key
    go_enter Tryz.func28, Tryz.ntmps28
    go_wp2_with fail
    go_ret
    exact ⟨rfl, key.out _ rfl⟩
  · have hnp : ¬ ((n : Int) ≤ 0) := by omega
    have key := Lib.hid key
    go_enter Tryz.func28, Tryz.ntmps28
    go_wp2_with fail
    go_ret
    exact ⟨rfl, key.out _ rfl⟩
end Go.Proofs.YtfplgggepoaajaaGreat
