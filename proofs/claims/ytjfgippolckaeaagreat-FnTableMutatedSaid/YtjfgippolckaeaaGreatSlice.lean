/- impl.slice: a string's bytes in a new block of their own. -/
import Derived.Test.YtjfgippolckaeaaGreatProg
import Derived.Test.YtjfgippolckaeaaGreatLaws
namespace Go.Proofs.YtjfgippolckaeaaGreat
open Go.RowKit
set_option linter.unusedVariables false

theorem infoU8 : (Tryz.prog.info? 5).map (fun i => (i.zero, i.size, i.bytes)) = some (some (.int .u8 0), 1, 1) := by kernel_rfl

theorem setRow_alloc (w : World) (c c' : Array Value) (t : TypeId) : (w.alloc (.cells c t)).setRow w.heap.size c' = w.alloc (.cells c' t) := by
  unfold World.setRow
  show World.mk _ _ _ _ _ = World.mk _ _ _ _ _
  congr 1
  show (w.heap.push _).modify w.heap.size _ = w.heap.push _
  apply Array.ext
  · simp
  · intro i h1 h2
    simp only [Array.getElem_modify, Array.getElem_push]
    split
    · rename_i h; subst h; simp
    · rename_i h; have : i < w.heap.size := by simp at h1; omega
      simp [this]

theorem slice_calls (s : ByteArray) (w : World) (hs : s.size ≤ 1000000000) :
    Calls Tryz.prog 25 #[.string s] w fun e w' => e = .returned (.slice (some ⟨w.heap.size, 0, none⟩) s.size s.size) ∧ w.alloc (.cells (cellsOf s.data.toList).toArray 5) = w' := by
  obtain ⟨i0, hi, hz0, hz1, hz2⟩ := info_parts infoU8
  have hmk := run_make (P := Tryz.prog) w 52 5 i0 (.int .u8 0) Tryz.underlying52 hi hz0 .i64 .i64 s.size s.size (by omega) (by omega) (by rw [hz2]; omega) (by omega)
  rw [hz1] at hmk
  simp only [Int.toNat_natCast, Nat.mul_one] at hmk
  have hcp := run_copy_string (P := Tryz.prog) (w.alloc (.cells (madeCells (Value.int .u8 0).cells s.size) 5)) 52 9 3 5 w.heap.size 0 s.size s.size s
    (madeCells (Value.int .u8 0).cells s.size) 5 Tryz.underlying52 (by rw [hi]; simp [hz1]) (heap_alloc_new w _) (by rw [size_madeCells]; omega)
  have e1 : (madeCells (Value.int .u8 0).cells s.size).toList.drop (0 + min s.size s.size) = [] := by
    apply List.drop_of_length_le; simp [size_madeCells]
  have e2 : s.data.toList.take (min s.size s.size) = s.data.toList := by
    apply List.take_of_length_le; simp
  rw [e1, e2, setRow_alloc] at hcp
  simp only [List.take_zero, List.nil_append, List.append_nil] at hcp
  clear e1 e2
  simp only [Value.cells] at hmk hcp
  go_enter Tryz.func25, Tryz.ntmps25
  go_wp2_with fail
  go_ret
  exact ⟨rfl, rfl⟩

end Go.Proofs.YtjfgippolckaeaaGreat
