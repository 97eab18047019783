/- impl.NumGet and impl.NumWrite: what the thin package answers of bytes. -/
import Derived.Test.YtjfgippolckaeaaGreatNumRW
import Derived.Test.YtjfgippolckaeaaGreatSlice
import Derived.Test.YtjfgippolckaeaaGreatThrown
import Derived.Test.YtjfgippolckaeaaGreatNum
namespace Go.Proofs.YtjfgippolckaeaaGreat
open Go.RowKit
set_option linter.unusedVariables false
set_option linter.unusedSimpArgs false

theorem NumGet1_ok (K B N : Addr) (k : Int) (b off len cap : Nat) (l : List UInt8) (x : Value) (w : World) (hK : w.cell? K = some (.int .u8 k)) (hB : w.cell? B = some (.slice (some ⟨b, off, none⟩) len cap))
    (hN : w.cell? N = some x) (hF : w.frozen? N = false) (hk : 0 < numSize k) (hm : Mem w b off l) (hlen : l.length = len) (hs : numSize k ≤ len) :
    Calls Tryz.prog 31 #[.pointer (some K), .pointer (some B), .pointer (some N)] w fun e w' => e = .returned (.tuple #[]) ∧ w.setCell N (.int .u64 (numVal k (le (l.take (numSize k))))) = w' := by
  have HC := Lib.hid (numGet_ok k b off len cap l w hk hm hlen hs)
  clear hk hm hlen hs
  go_enter Tryz.func31, Tryz.ntmps31
  go_wp2_with (go_at_call 32; refine HC.out.mono ?_; rintro e w' ⟨rfl, rfl⟩)
  go_end0
  exact ⟨rfl, rfl⟩
theorem NumGet1_dies (K B N : Addr) (k : Int) (a : Option Addr) (len cap : Nat) (w : World) (hK : w.cell? K = some (.int .u8 k)) (hB : w.cell? B = some (.slice a len cap)) (hnil : a = none → len = 0) (hs : numSize k = 0 ∨ len < numSize k) :
    Calls Tryz.prog 31 #[.pointer (some K), .pointer (some B), .pointer (some N)] w (Dies w) := by
  have HC := Lib.hid (numGet_dies k a len cap w hnil hs)
  clear hnil hs
  go_enter Tryz.func31, Tryz.ntmps31
  go_wp2_with (go_at_call 32; refine HC.out.mono ?_; rintro e w' ⟨⟨u, v, rfl⟩, n, rfl⟩)
  exact ⟨rfl, ⟨u, v, rfl⟩, n, rfl⟩

set_option maxHeartbeats 1000000 in
theorem NumGet_ok (k : Int) (s : ByteArray) (w : World) (hs : s.size ≤ 1000000000) (hk : 0 < numSize k) (hfit : numSize k ≤ s.size) :
    Calls Tryz.prog 19 #[.int .u8 k, .string s] w fun e w' => e = .returned (.tuple #[.int .u64 (numVal k (le (s.data.toList.take (numSize k)))), .bool false]) ∧ Fr0 w w' := by
  have hmf : ∀ (fn : Fn) (first cap : Array Value) (w : World), (Instr.makeFunc fn first cap).run Tryz.prog w = .ok (.func fn first cap) w := fun _ _ _ _ => rfl
  have hf : s.data.toList.length = s.size := by simp
  have HF := Lib.hid hf; clear hf
  go_enter Tryz.func19, Tryz.ntmps19
  go_wp2_with (go_at_call 25; refine (slice_calls s _ hs).mono ?_; rintro e w' ⟨rfl, rfl⟩)
  generalize hW : ((((w.alloc (Obj.cells #[Value.int IntKind.u8 k] 5)).alloc (Obj.cells #[Value.int IntKind.u64 0] 23)).alloc (Obj.cells (cellsOf s.data.toList).toArray 5)).alloc
      (Obj.cells #[Value.slice (some { block := w.heap.size + 1 + 1, off := 0 }) s.size s.size] 52)) = W
  have z : W.heap.size = w.heap.size + 4 := by subst hW; simp
  have b0 : W.heap[w.heap.size]? = some (.cells #[.int .u8 k] 5) := by subst hW; simp only [heap_alloc_get, size_alloc]; repeat (first | rw [if_pos trivial] | rw [if_pos (by omega)] | rw [if_neg (by omega)])
  have b1 : W.heap[w.heap.size + 1]? = some (.cells #[.int .u64 0] 23) := by subst hW; simp only [heap_alloc_get, size_alloc]; repeat (first | rw [if_pos trivial] | rw [if_pos (by omega)] | rw [if_neg (by omega)])
  have b2 : W.heap[w.heap.size + 1 + 1]? = some (.cells (cellsOf s.data.toList).toArray 5) := by subst hW; simp only [heap_alloc_get, size_alloc]; repeat (first | rw [if_pos trivial] | rw [if_pos (by omega)] | rw [if_neg (by omega)])
  have b3 : W.heap[w.heap.size + 1 + 1 + 1]? = some (.cells #[.slice (some ⟨w.heap.size + 1 + 1, 0, none⟩) s.size s.size] 52) := by subst hW; simp only [heap_alloc_get, size_alloc]; repeat (first | rw [if_pos trivial] | rw [if_pos (by omega)] | rw [if_neg (by omega)])
  have hfr : Fr0 w W := by subst hW; exact ((((Fr.refl _ _).alloc _).alloc _).alloc _).alloc _
  have HW := Lib.hid hW; clear hW
  have old : ∀ i, i < w.heap.size + 4 → (W.alloc thrownVar).heap[i]? = W.heap[i]? := fun i hi => heap_alloc_old _ _ _ (by omega)
  refine (thrown_ok (S := fun x => x = w.heap.size + 1) (R := fun w1 => (W.alloc thrownVar).setCell ⟨w.heap.size + 1, 0, none⟩ (.int .u64 (numVal k (le (s.data.toList.take (numSize k))))) = w1) (fun w => by kernel_rfl) ?h ?hR ?hS).mono ?_
  case h =>
    exact NumGet1_ok _ _ _ k (w.heap.size + 1 + 1) 0 s.size s.size s.data.toList (.int .u64 0) _ (by rw [cell_of ((old _ (by omega)).trans b0)]; rfl) (by rw [cell_of ((old _ (by omega)).trans b3)]; rfl)
      (by rw [cell_of ((old _ (by omega)).trans b1)]; rfl) (frozen_of ((old _ (by omega)).trans b1) 0) hk (Mem.of_block ((old _ (by omega)).trans b2)) HF.out hfit
  case hR =>
    rintro w1 rfl
    exact Fr.set1 _ _ _ _
  case hS => omega
  rintro e w' ⟨rfl, w1, rfl, hfr2⟩
  have c1 : w'.heap[w.heap.size + 1]? = some (.cells #[.int .u64 (numVal k (le (s.data.toList.take (numSize k))))] 23) := by
    rw [hfr2.block _ (by simp [World.setCell]; omega) (by omega), heap_setCell_same ((old _ (by omega)).trans b1) 0]
    rfl
  have c2 : w'.cell? ⟨w.heap.size + 1, 0, none⟩ = some (.int .u64 (numVal k (le (s.data.toList.take (numSize k))))) := by rw [cell_of c1]; rfl
  have c3 := frozen_of c1 0
  have hfin : Fr0 w w' := by
    refine (hfr.alloc thrownVar |>.trans2 (Fr.set1 _ (w.heap.size + 1) 0 (.int .u64 (numVal k (le (s.data.toList.take (numSize k)))))) (by intro i hi; omega)).trans2 (hfr2) ?_
    intro i hi; omega
  clear c1 hfr2 old b0 b1 b2 b3 z hfr
  go_wp2_with fail
  exact bodyPost_ret (v := .tuple #[.int .u64 (numVal k (le (s.data.toList.take (numSize k)))), .bool false]) (by simp [results, Tryz.results19, go_sem, c2]) rfl ⟨rfl, hfin.setCell (fun h => by simp at h; omega) _⟩

set_option maxHeartbeats 1000000 in
theorem NumGet_dies (k : Int) (s : ByteArray) (w : World) (hs : s.size ≤ 1000000000) (hk : numSize k = 0 ∨ s.size < numSize k) :
    Calls Tryz.prog 19 #[.int .u8 k, .string s] w fun e w' => e = .returned (.tuple #[.int .u64 0, .bool true]) ∧ Fr0 w w' := by
  have hmf : ∀ (fn : Fn) (first cap : Array Value) (w : World), (Instr.makeFunc fn first cap).run Tryz.prog w = .ok (.func fn first cap) w := fun _ _ _ _ => rfl
  go_enter Tryz.func19, Tryz.ntmps19
  go_wp2_with (go_at_call 25; refine (slice_calls s _ hs).mono ?_; rintro e w' ⟨rfl, rfl⟩)
  generalize hW : ((((w.alloc (Obj.cells #[Value.int IntKind.u8 k] 5)).alloc (Obj.cells #[Value.int IntKind.u64 0] 23)).alloc (Obj.cells (cellsOf s.data.toList).toArray 5)).alloc
      (Obj.cells #[Value.slice (some { block := w.heap.size + 1 + 1, off := 0 }) s.size s.size] 52)) = W
  have z : W.heap.size = w.heap.size + 4 := by subst hW; simp
  have b0 : W.heap[w.heap.size]? = some (.cells #[.int .u8 k] 5) := by subst hW; simp only [heap_alloc_get, size_alloc]; repeat (first | rw [if_pos trivial] | rw [if_pos (by omega)] | rw [if_neg (by omega)])
  have b1 : W.heap[w.heap.size + 1]? = some (.cells #[.int .u64 0] 23) := by subst hW; simp only [heap_alloc_get, size_alloc]; repeat (first | rw [if_pos trivial] | rw [if_pos (by omega)] | rw [if_neg (by omega)])
  have b2 : W.heap[w.heap.size + 1 + 1]? = some (.cells (cellsOf s.data.toList).toArray 5) := by subst hW; simp only [heap_alloc_get, size_alloc]; repeat (first | rw [if_pos trivial] | rw [if_pos (by omega)] | rw [if_neg (by omega)])
  have b3 : W.heap[w.heap.size + 1 + 1 + 1]? = some (.cells #[.slice (some ⟨w.heap.size + 1 + 1, 0, none⟩) s.size s.size] 52) := by subst hW; simp only [heap_alloc_get, size_alloc]; repeat (first | rw [if_pos trivial] | rw [if_pos (by omega)] | rw [if_neg (by omega)])
  have hfr : Fr0 w W := by subst hW; exact ((((Fr.refl _ _).alloc _).alloc _).alloc _).alloc _
  have HW := Lib.hid hW; clear hW
  have old : ∀ i, i < w.heap.size + 4 → (W.alloc thrownVar).heap[i]? = W.heap[i]? := fun i hi => heap_alloc_old _ _ _ (by omega)
  refine (thrown_panics (S := fun x => False) (R := fun w1 => ∃ n, w1 = (W.alloc thrownVar).drewN n) (fun w => by kernel_rfl) ?h ?hR ?hS).mono ?_
  case h =>
    exact NumGet1_dies _ _ _ k (some ⟨w.heap.size + 1 + 1, 0, none⟩) s.size s.size _ (by rw [cell_of ((old _ (by omega)).trans b0)]; rfl) (by rw [cell_of ((old _ (by omega)).trans b3)]; rfl)
      (by simp) hk
  case hR =>
    rintro w1 ⟨n, rfl⟩
    exact (Fr.refl _ _).drewN n
  case hS => exact fun x => x
  rintro e w' ⟨rfl, w1, ⟨n, rfl⟩, hfr2⟩
  have c1 : w'.heap[w.heap.size + 1]? = some (.cells #[.int .u64 0] 23) := by
    rw [hfr2.block _ (by simp; omega) (by omega)]
    exact (old _ (by omega)).trans b1
  have c2 : w'.cell? ⟨w.heap.size + 1, 0, none⟩ = some (.int .u64 0) := by rw [cell_of c1]; rfl
  have c3 := frozen_of c1 0
  have hfin : Fr0 w w' := ((hfr.alloc thrownVar).drewN n).trans2 hfr2 (by intro i hi; omega)
  clear c1 hfr2 old b0 b1 b2 b3 z hfr
  go_wp2_with fail
  exact bodyPost_ret (v := .tuple #[.int .u64 0, .bool true]) (by simp [results, Tryz.results19, go_sem, c2]) rfl ⟨rfl, hfin.setCell (fun h => by simp at h; omega) _⟩

theorem NumWrite1_ok (K B N : Addr) (k : Int) (b off len cap n : Nat) (c : Array Value) (t : TypeId) (w : World) (hK : w.cell? K = some (.int .u8 k)) (hB : w.cell? B = some (.slice (some ⟨b, off, none⟩) len cap))
    (hN : w.cell? N = some (.int .u64 n)) (hk : 0 < numSize k) (hb : w.heap[b]? = some (.cells c t (0, 0))) (hfit : off + len ≤ c.size) (hs : numSize k ≤ len) (hn : n < 2 ^ 64) :
    Calls Tryz.prog 33 #[.pointer (some K), .pointer (some B), .pointer (some N)] w fun e w' => e = .returned (.tuple #[]) ∧ w.setCells b off (cellsOf (numB k n)) = w' := by
  have HC := Lib.hid (numWrite_ok k b off len cap n c t w hk hb hfit hs hn)
  clear hk hb hfit hs
  go_enter Tryz.func33, Tryz.ntmps33
  go_wp2_with (go_at_call 34; refine HC.out.mono ?_; rintro e w' ⟨rfl, rfl⟩)
  go_end0
  exact ⟨rfl, rfl⟩
theorem NumWrite1_dies (K B N : Addr) (k : Int) (a : Option Addr) (len cap n : Nat) (w : World) (hK : w.cell? K = some (.int .u8 k)) (hB : w.cell? B = some (.slice a len cap)) (hN : w.cell? N = some (.int .u64 n)) (hnil : a = none → len = 0) (hs : numSize k = 0 ∨ len < numSize k) (hn : n < 2 ^ 64) :
    Calls Tryz.prog 33 #[.pointer (some K), .pointer (some B), .pointer (some N)] w (Dies w) := by
  have HC := Lib.hid (numWrite_dies k a len cap n w hnil hs hn)
  clear hnil hs
  go_enter Tryz.func33, Tryz.ntmps33
  go_wp2_with (go_at_call 34; refine HC.out.mono ?_; rintro e w' ⟨⟨u, v, rfl⟩, n, rfl⟩)
  exact ⟨rfl, ⟨u, v, rfl⟩, n, rfl⟩

theorem splice_cells (l : List UInt8) (m : List UInt8) (h : m.length ≤ l.length) : splice (cellsOf l).toArray 0 (cellsOf m) = (cellsOf (m ++ l.drop m.length)).toArray := by
  simp [splice, cellsOf, List.map_drop]

set_option maxHeartbeats 1000000 in
theorem NumWrite_ok (k : Int) (s : ByteArray) (n : Nat) (w : World) (hs : s.size ≤ 1000000000) (hk : 0 < numSize k) (hfit : numSize k ≤ s.size) (hn : n < 2 ^ 64) :
    Calls Tryz.prog 20 #[.int .u8 k, .string s, .int .u64 n] w fun e w' => e = .returned (.tuple #[.string (strOf (numB k n ++ s.data.toList.drop (numSize k))), .bool false]) ∧ Fr0 w w' := by
  have hmf : ∀ (fn : Fn) (first cap : Array Value) (w : World), (Instr.makeFunc fn first cap).run Tryz.prog w = .ok (.func fn first cap) w := fun _ _ _ _ => rfl
  have hf : s.data.toList.length = s.size := by simp
  have HF := Lib.hid hf; clear hf
  go_enter Tryz.func20, Tryz.ntmps20
  go_wp2_with (go_at_call 25; refine (slice_calls s _ hs).mono ?_; rintro e w' ⟨rfl, rfl⟩)
  generalize hW : ((((w.alloc (Obj.cells #[Value.int IntKind.u8 k] 5)).alloc (Obj.cells #[Value.int IntKind.u64 n] 23)).alloc (Obj.cells (cellsOf s.data.toList).toArray 5)).alloc
      (Obj.cells #[Value.slice (some { block := w.heap.size + 1 + 1, off := 0 }) s.size s.size] 52)) = W
  have z : W.heap.size = w.heap.size + 4 := by subst hW; simp
  have b0 : W.heap[w.heap.size]? = some (.cells #[.int .u8 k] 5) := by subst hW; simp only [heap_alloc_get, size_alloc]; repeat (first | rw [if_pos trivial] | rw [if_pos (by omega)] | rw [if_neg (by omega)])
  have b1 : W.heap[w.heap.size + 1]? = some (.cells #[.int .u64 n] 23) := by subst hW; simp only [heap_alloc_get, size_alloc]; repeat (first | rw [if_pos trivial] | rw [if_pos (by omega)] | rw [if_neg (by omega)])
  have b2 : W.heap[w.heap.size + 1 + 1]? = some (.cells (cellsOf s.data.toList).toArray 5) := by subst hW; simp only [heap_alloc_get, size_alloc]; repeat (first | rw [if_pos trivial] | rw [if_pos (by omega)] | rw [if_neg (by omega)])
  have b3 : W.heap[w.heap.size + 1 + 1 + 1]? = some (.cells #[.slice (some ⟨w.heap.size + 1 + 1, 0, none⟩) s.size s.size] 52) := by subst hW; simp only [heap_alloc_get, size_alloc]; repeat (first | rw [if_pos trivial] | rw [if_pos (by omega)] | rw [if_neg (by omega)])
  have hfr : Fr0 w W := by subst hW; exact ((((Fr.refl _ _).alloc _).alloc _).alloc _).alloc _
  have HW := Lib.hid hW; clear hW
  have old : ∀ i, i < w.heap.size + 4 → (W.alloc thrownVar).heap[i]? = W.heap[i]? := fun i hi => heap_alloc_old _ _ _ (by omega)
  have hsz : (cellsOf s.data.toList).toArray.size = s.size := by rw [List.size_toArray, cellsOf_length, HF.out]
  have hnl : (cellsOf (numB k n)).length ≤ s.size := by rw [cellsOf_length, numB_length]; exact hfit
  refine (thrown_ok (S := fun x => x = w.heap.size + 1 + 1) (R := fun w1 => (W.alloc thrownVar).setCells (w.heap.size + 1 + 1) 0 (cellsOf (numB k n)) = w1) (fun w => by kernel_rfl) ?h ?hR ?hS).mono ?_
  case h =>
    exact NumWrite1_ok _ _ _ k (w.heap.size + 1 + 1) 0 s.size s.size n (cellsOf s.data.toList).toArray 5 _ (by rw [cell_of ((old _ (by omega)).trans b0)]; rfl) (by rw [cell_of ((old _ (by omega)).trans b3)]; rfl)
      (by rw [cell_of ((old _ (by omega)).trans b1)]; rfl) hk ((old _ (by omega)).trans b2) (by rw [hsz]; omega) hfit hn
  case hR =>
    rintro w1 rfl
    exact Fr.setCells (S := fun x => x = w.heap.size + 1 + 1) (Fr.refl _ _) (fun _ => rfl) _ _
  case hS => omega
  rintro e w' ⟨rfl, w1, rfl, hfr2⟩
  have c1 : w'.heap[w.heap.size + 1 + 1]? = some (.cells (cellsOf (numB k n ++ s.data.toList.drop (numSize k))).toArray 5) := by
    rw [hfr2.block _ (by rw [setCells_size, size_alloc]; omega) (by omega), heap_setCells_same _ 0 _ _ ((old _ (by omega)).trans b2) (by rw [hsz]; omega), splice_cells _ _ (by rw [numB_length, HF.out]; exact hfit), numB_length]
  have c4 : w'.heap[w.heap.size + 1 + 1 + 1]? = some (.cells #[.slice (some ⟨w.heap.size + 1 + 1, 0, none⟩) s.size s.size] 52) := by
    rw [hfr2.block _ (by rw [setCells_size, size_alloc]; omega) (by omega), heap_setCells_other _ (by omega)]
    exact (old _ (by omega)).trans b3
  have c5 : w'.cell? ⟨w.heap.size + 1 + 1 + 1, 0, none⟩ = some (.slice (some ⟨w.heap.size + 1 + 1, 0, none⟩) s.size s.size) := by rw [cell_of c4]; rfl
  have hcv := run_bytes_string (P := Tryz.prog) (len := s.size) (cap := s.size) (Mem.of_block c1) (by rw [List.length_append, numB_length, List.length_drop, HF.out]; omega) Tryz.underlying52 Tryz.underlying5 Tryz.underlying9
  have hfin : Fr0 w w' := by
    refine ((hfr.alloc thrownVar).trans2 (Fr.setCells (S := fun x => x = w.heap.size + 1 + 1) (Fr.refl _ _) (fun _ => rfl) 0 (cellsOf (numB k n))) (by intro i hi; omega)).trans2 (hfr2) ?_
    intro i hi; omega
  clear c1 c4 hfr2 old b0 b1 b2 b3 z hfr hsz hnl
  go_wp2_with fail
  go_ret2
  exact ⟨rfl, hfin⟩

set_option maxHeartbeats 1000000 in
theorem NumWrite_dies (k : Int) (s : ByteArray) (n : Nat) (w : World) (hs : s.size ≤ 1000000000) (hk : numSize k = 0 ∨ s.size < numSize k) (hn : n < 2 ^ 64) :
    Calls Tryz.prog 20 #[.int .u8 k, .string s, .int .u64 n] w fun e w' => e = .returned (.tuple #[.string s, .bool true]) ∧ Fr0 w w' := by
  have hmf : ∀ (fn : Fn) (first cap : Array Value) (w : World), (Instr.makeFunc fn first cap).run Tryz.prog w = .ok (.func fn first cap) w := fun _ _ _ _ => rfl
  have hf : s.data.toList.length = s.size := by simp
  have HF := Lib.hid hf; clear hf
  go_enter Tryz.func20, Tryz.ntmps20
  go_wp2_with (go_at_call 25; refine (slice_calls s _ hs).mono ?_; rintro e w' ⟨rfl, rfl⟩)
  generalize hW : ((((w.alloc (Obj.cells #[Value.int IntKind.u8 k] 5)).alloc (Obj.cells #[Value.int IntKind.u64 n] 23)).alloc (Obj.cells (cellsOf s.data.toList).toArray 5)).alloc
      (Obj.cells #[Value.slice (some { block := w.heap.size + 1 + 1, off := 0 }) s.size s.size] 52)) = W
  have z : W.heap.size = w.heap.size + 4 := by subst hW; simp
  have b0 : W.heap[w.heap.size]? = some (.cells #[.int .u8 k] 5) := by subst hW; simp only [heap_alloc_get, size_alloc]; repeat (first | rw [if_pos trivial] | rw [if_pos (by omega)] | rw [if_neg (by omega)])
  have b1 : W.heap[w.heap.size + 1]? = some (.cells #[.int .u64 n] 23) := by subst hW; simp only [heap_alloc_get, size_alloc]; repeat (first | rw [if_pos trivial] | rw [if_pos (by omega)] | rw [if_neg (by omega)])
  have b2 : W.heap[w.heap.size + 1 + 1]? = some (.cells (cellsOf s.data.toList).toArray 5) := by subst hW; simp only [heap_alloc_get, size_alloc]; repeat (first | rw [if_pos trivial] | rw [if_pos (by omega)] | rw [if_neg (by omega)])
  have b3 : W.heap[w.heap.size + 1 + 1 + 1]? = some (.cells #[.slice (some ⟨w.heap.size + 1 + 1, 0, none⟩) s.size s.size] 52) := by subst hW; simp only [heap_alloc_get, size_alloc]; repeat (first | rw [if_pos trivial] | rw [if_pos (by omega)] | rw [if_neg (by omega)])
  have hfr : Fr0 w W := by subst hW; exact ((((Fr.refl _ _).alloc _).alloc _).alloc _).alloc _
  have HW := Lib.hid hW; clear hW
  have old : ∀ i, i < w.heap.size + 4 → (W.alloc thrownVar).heap[i]? = W.heap[i]? := fun i hi => heap_alloc_old _ _ _ (by omega)
  refine (thrown_panics (S := fun x => False) (R := fun w1 => ∃ n, w1 = (W.alloc thrownVar).drewN n) (fun w => by kernel_rfl) ?h ?hR ?hS).mono ?_
  case h =>
    exact NumWrite1_dies _ _ _ k (some ⟨w.heap.size + 1 + 1, 0, none⟩) s.size s.size n _ (by rw [cell_of ((old _ (by omega)).trans b0)]; rfl) (by rw [cell_of ((old _ (by omega)).trans b3)]; rfl)
      (by rw [cell_of ((old _ (by omega)).trans b1)]; rfl) (by simp) hk hn
  case hR =>
    rintro w1 ⟨m, rfl⟩
    exact (Fr.refl _ _).drewN m
  case hS => exact fun x => x
  rintro e w' ⟨rfl, w1, ⟨m, rfl⟩, hfr2⟩
  have c1 : w'.heap[w.heap.size + 1 + 1]? = some (.cells (cellsOf s.data.toList).toArray 5) := by
    rw [hfr2.block _ (by simp; omega) (by omega)]
    exact (old _ (by omega)).trans b2
  have c4 : w'.heap[w.heap.size + 1 + 1 + 1]? = some (.cells #[.slice (some ⟨w.heap.size + 1 + 1, 0, none⟩) s.size s.size] 52) := by
    rw [hfr2.block _ (by simp; omega) (by omega)]
    exact (old _ (by omega)).trans b3
  have c5 : w'.cell? ⟨w.heap.size + 1 + 1 + 1, 0, none⟩ = some (.slice (some ⟨w.heap.size + 1 + 1, 0, none⟩) s.size s.size) := by rw [cell_of c4]; rfl
  have hcv := run_bytes_string (P := Tryz.prog) (len := s.size) (cap := s.size) (Mem.of_block c1) HF.out Tryz.underlying52 Tryz.underlying5 Tryz.underlying9
  have hfin : Fr0 w w' := ((hfr.alloc thrownVar).drewN m).trans2 hfr2 (by intro i hi; omega)
  clear c1 c4 hfr2 old b0 b1 b2 b3 z hfr
  go_wp2_with fail
  go_ret2
  exact ⟨rfl, hfin⟩

end Go.Proofs.YtjfgippolckaeaaGreat
