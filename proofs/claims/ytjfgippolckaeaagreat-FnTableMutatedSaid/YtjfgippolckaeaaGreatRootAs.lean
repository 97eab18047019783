/- impl.RootAs: the position of a root, or that there is none. -/
import Derived.Test.YtjfgippolckaeaaGreatRoot
namespace Go.Proofs.YtjfgippolckaeaaGreat
open Go.RowKit
set_option linter.unusedVariables false
set_option linter.unusedSimpArgs false

set_option maxHeartbeats 1000000 in
theorem RootAs_ok (s : ByteArray) (off : Nat) (w : World) (hs : s.size ≤ 1000000000) (h : off + 4 ≤ s.size) :
    Calls Tryz.prog 18 #[.string s, .int .u32 off] w fun e w' => e = .returned (.tuple #[.int .u32 (IntKind.u32.wrap ((le ((s.data.toList.drop off).take 4) : Nat) + off)), .bool false]) ∧ Fr0 w w' := by
  have hmf : ∀ (fn : Fn) (first cap : Array Value) (w : World), (Instr.makeFunc fn first cap).run Tryz.prog w = .ok (.func fn first cap) w := fun _ _ _ _ => rfl
  go_enter Tryz.func18, Tryz.ntmps18
  go_wp2_with fail
  generalize hW : ((((w.alloc (Obj.cells #[Value.string s] 9)).alloc (Obj.cells #[Value.int IntKind.u32 off] 24)).alloc (Obj.cells #[Value.slice none 0 0, Value.int IntKind.u32 0] 82)).alloc
      (Obj.cells #[Value.pointer (some { block := w.heap.size + 1 + 1, off := 0 })] 80)) = W
  have z : W.heap.size = w.heap.size + 4 := by subst hW; simp
  have b0 : W.heap[w.heap.size]? = some (.cells #[.string s] 9) := by subst hW; simp only [heap_alloc_get, size_alloc]; repeat (first | rw [if_pos trivial] | rw [if_pos (by omega)] | rw [if_neg (by omega)])
  have b1 : W.heap[w.heap.size + 1]? = some (.cells #[.int .u32 off] 24) := by subst hW; simp only [heap_alloc_get, size_alloc]; repeat (first | rw [if_pos trivial] | rw [if_pos (by omega)] | rw [if_neg (by omega)])
  have b2 : W.heap[w.heap.size + 1 + 1]? = some (.cells #[.slice none 0 0, .int .u32 0] 82) := by subst hW; simp only [heap_alloc_get, size_alloc]; repeat (first | rw [if_pos trivial] | rw [if_pos (by omega)] | rw [if_neg (by omega)])
  have b3 : W.heap[w.heap.size + 1 + 1 + 1]? = some (.cells #[.pointer (some ⟨w.heap.size + 1 + 1, 0, none⟩)] 80) := by subst hW; simp only [heap_alloc_get, size_alloc]; repeat (first | rw [if_pos trivial] | rw [if_pos (by omega)] | rw [if_neg (by omega)])
  have hfr : Fr0 w W := by subst hW; exact ((((Fr.refl _ _).alloc _).alloc _).alloc _).alloc _
  have HW := Lib.hid hW; clear hW
  have old : ∀ i, i < w.heap.size + 4 → (W.alloc thrownVar).heap[i]? = W.heap[i]? := fun i hi => heap_alloc_old _ _ _ (by omega)
  have cS : (W.alloc thrownVar).cell? ⟨w.heap.size, 0, none⟩ = some (.string s) := by rw [cell_of ((old _ (by omega)).trans b0)]; rfl
  have cO : (W.alloc thrownVar).cell? ⟨w.heap.size + 1, 0, none⟩ = some (.int .u32 off) := by rw [cell_of ((old _ (by omega)).trans b1)]; rfl
  have cX : (W.alloc thrownVar).cell? ⟨w.heap.size + 1 + 1 + 1, 0, none⟩ = some (.pointer (some ⟨w.heap.size + 1 + 1, 0, none⟩)) := by rw [cell_of ((old _ (by omega)).trans b3)]; rfl
  refine (thrown_ok (S := fun x => x = w.heap.size + 1 + 1) (R := fun w1 => Fr (fun x => x = w.heap.size + 1 + 1) (W.alloc thrownVar) w1 ∧ w1.heap[w.heap.size + 1 + 1]? = some (.cells #[.slice (some ⟨(W.alloc thrownVar).heap.size, 0, none⟩) s.size s.size, .int .u32 (IntKind.u32.wrap ((le ((s.data.toList.drop off).take 4) : Nat) + off))] 82)) (fun w => by kernel_rfl) ?h ?hR ?hS).mono ?_
  case h =>
    exact RootAs1_ok ⟨w.heap.size, 0, none⟩ ⟨w.heap.size + 1, 0, none⟩ ⟨w.heap.size + 1 + 1 + 1, 0, none⟩ (w.heap.size + 1 + 1) off s _ _ (W.alloc thrownVar) cS cO cX (by simp; omega) (by simp; omega) (by simp; omega) (by dsimp only; omega) (by dsimp only; omega) (by dsimp only; omega) ((old _ (by omega)).trans b2) hs h
  case hR => exact fun w1 h => h.1
  case hS => omega
  rintro e w' ⟨rfl, w1, ⟨hf1, c1⟩, hfr2⟩
  have hsz := hf1.size
  have c0 : w'.heap[w.heap.size + 1 + 1]? = some (.cells #[.slice (some ⟨(W.alloc thrownVar).heap.size, 0, none⟩) s.size s.size, .int .u32 (IntKind.u32.wrap ((le ((s.data.toList.drop off).take 4) : Nat) + off))] 82) := by
    rw [hfr2.block _ (by simp at hsz; omega) (by omega)]; exact c1
  have c3 : w'.heap[w.heap.size + 1 + 1 + 1]? = some (.cells #[.pointer (some ⟨w.heap.size + 1 + 1, 0, none⟩)] 80) := by
    rw [hfr2.block _ (by simp at hsz; omega) (by omega), hf1.block _ (by simp; omega) (by omega)]; exact (old _ (by omega)).trans b3
  have hfin : Fr0 w w' := ((hfr.alloc thrownVar).trans2 hf1 (by intro i hi; omega)).trans2 hfr2 (by intro i hi; omega)
  clear c1 hf1 hsz
  have c1 := c0
  have d1 : w'.cell? ⟨w.heap.size + 1 + 1, 1, none⟩ = some (.int .u32 (IntKind.u32.wrap ((le ((s.data.toList.drop off).take 4) : Nat) + off))) := by rw [cell_of c1]; rfl
  have d3 : w'.cell? ⟨w.heap.size + 1 + 1 + 1, 0, none⟩ = some (.pointer (some ⟨w.heap.size + 1 + 1, 0, none⟩)) := by rw [cell_of c3]; rfl
  clear c0 c1 c3 hfr2 old b0 b1 b2 b3 z hfr cS cO cX
  go_wp2_with fail
  go_ret2
  exact ⟨rfl, hfin⟩

set_option maxHeartbeats 1000000 in
theorem RootAs_dies (s : ByteArray) (off : Nat) (w : World) (hs : s.size ≤ 1000000000) (h : s.size < off + 4) :
    Calls Tryz.prog 18 #[.string s, .int .u32 off] w fun e w' => e = .returned (.tuple #[.int .u32 0, .bool true]) ∧ Fr0 w w' := by
  have hmf : ∀ (fn : Fn) (first cap : Array Value) (w : World), (Instr.makeFunc fn first cap).run Tryz.prog w = .ok (.func fn first cap) w := fun _ _ _ _ => rfl
  go_enter Tryz.func18, Tryz.ntmps18
  go_wp2_with fail
  generalize hW : ((((w.alloc (Obj.cells #[Value.string s] 9)).alloc (Obj.cells #[Value.int IntKind.u32 off] 24)).alloc (Obj.cells #[Value.slice none 0 0, Value.int IntKind.u32 0] 82)).alloc
      (Obj.cells #[Value.pointer (some { block := w.heap.size + 1 + 1, off := 0 })] 80)) = W
  have z : W.heap.size = w.heap.size + 4 := by subst hW; simp
  have b0 : W.heap[w.heap.size]? = some (.cells #[.string s] 9) := by subst hW; simp only [heap_alloc_get, size_alloc]; repeat (first | rw [if_pos trivial] | rw [if_pos (by omega)] | rw [if_neg (by omega)])
  have b1 : W.heap[w.heap.size + 1]? = some (.cells #[.int .u32 off] 24) := by subst hW; simp only [heap_alloc_get, size_alloc]; repeat (first | rw [if_pos trivial] | rw [if_pos (by omega)] | rw [if_neg (by omega)])
  have b2 : W.heap[w.heap.size + 1 + 1]? = some (.cells #[.slice none 0 0, .int .u32 0] 82) := by subst hW; simp only [heap_alloc_get, size_alloc]; repeat (first | rw [if_pos trivial] | rw [if_pos (by omega)] | rw [if_neg (by omega)])
  have b3 : W.heap[w.heap.size + 1 + 1 + 1]? = some (.cells #[.pointer (some ⟨w.heap.size + 1 + 1, 0, none⟩)] 80) := by subst hW; simp only [heap_alloc_get, size_alloc]; repeat (first | rw [if_pos trivial] | rw [if_pos (by omega)] | rw [if_neg (by omega)])
  have hfr : Fr0 w W := by subst hW; exact ((((Fr.refl _ _).alloc _).alloc _).alloc _).alloc _
  have HW := Lib.hid hW; clear hW
  have old : ∀ i, i < w.heap.size + 4 → (W.alloc thrownVar).heap[i]? = W.heap[i]? := fun i hi => heap_alloc_old _ _ _ (by omega)
  have cS : (W.alloc thrownVar).cell? ⟨w.heap.size, 0, none⟩ = some (.string s) := by rw [cell_of ((old _ (by omega)).trans b0)]; rfl
  have cO : (W.alloc thrownVar).cell? ⟨w.heap.size + 1, 0, none⟩ = some (.int .u32 off) := by rw [cell_of ((old _ (by omega)).trans b1)]; rfl
  have cX : (W.alloc thrownVar).cell? ⟨w.heap.size + 1 + 1 + 1, 0, none⟩ = some (.pointer (some ⟨w.heap.size + 1 + 1, 0, none⟩)) := by rw [cell_of ((old _ (by omega)).trans b3)]; rfl
  refine (thrown_panics (S := fun x => False) (R := fun w1 => Fr0 (W.alloc thrownVar) w1) (fun w => by kernel_rfl) ?h ?hR ?hS).mono ?_
  case h =>
    exact RootAs1_dies ⟨w.heap.size, 0, none⟩ ⟨w.heap.size + 1, 0, none⟩ ⟨w.heap.size + 1 + 1 + 1, 0, none⟩ (w.heap.size + 1 + 1) off s (W.alloc thrownVar) cS cO cX (by simp; omega) (by simp; omega) (by simp; omega) hs h
  case hR => exact fun w1 h => h
  case hS => exact fun x => x
  rintro e w' ⟨rfl, w1, hf1, hfr2⟩
  have hsz := hf1.size
  have c0 : w'.heap[w.heap.size + 1 + 1]? = some (.cells #[.slice none 0 0, .int .u32 0] 82) := by
    rw [hfr2.block _ (by simp at hsz; omega) (by omega), hf1.block _ (by simp; omega) (fun x => x)]; exact (old _ (by omega)).trans b2
  have c3 : w'.heap[w.heap.size + 1 + 1 + 1]? = some (.cells #[.pointer (some ⟨w.heap.size + 1 + 1, 0, none⟩)] 80) := by
    rw [hfr2.block _ (by simp at hsz; omega) (by omega), hf1.block _ (by simp; omega) (fun x => x)]; exact (old _ (by omega)).trans b3
  have hfin : Fr0 w w' := ((hfr.alloc thrownVar).trans2 hf1 (fun _ _ x => x)).trans2 hfr2 (by intro i hi; omega)
  clear hf1 hsz
  have c1 := c0
  have d1 : w'.cell? ⟨w.heap.size + 1 + 1, 1, none⟩ = some (.int .u32 (0)) := by rw [cell_of c1]; rfl
  have d3 : w'.cell? ⟨w.heap.size + 1 + 1 + 1, 0, none⟩ = some (.pointer (some ⟨w.heap.size + 1 + 1, 0, none⟩)) := by rw [cell_of c3]; rfl
  clear c0 c1 c3 hfr2 old b0 b1 b2 b3 z hfr cS cO cX
  go_wp2_with fail
  go_ret2
  exact ⟨rfl, hfin⟩

end Go.Proofs.YtjfgippolckaeaaGreat
