/- impl.TableRun's function value, called by thrown: one step, its answer in a variable; or a panic that is caught. -/
import Derived.Test.YtjfgippolckaeaaGreatTabAns
import Derived.Test.YtjfgippolckaeaaGreatThrown
namespace Go.Proofs.YtjfgippolckaeaaGreat
open Go.RowKit
set_option linter.unusedVariables false
set_option linter.unusedSimpArgs false

/-- A step as it is told, and its cells. -/
structure Stp where
  op : Int
  k : Int
  off : Nat
  num : Nat
def stepC (s : Stp) : List Value := [.int .u8 s.op, .int .u8 s.k, .int .u32 s.off, .int .u64 s.num]
def ansC (a : Ans) : List Value := [.int .u64 a.num, .string (strOf a.text), .bool a.done, .bool a.pan]

set_option maxHeartbeats 2000000 in
theorem run1_ok (T B V S A pos : Nat) (s : Stp) (l m : List UInt8) (a : Ans) (x0 x1 x2 x3 : Value) (w : World) (hT : Tab w T B l pos) (hTl : T < w.heap.size) (hn : s.num < 2 ^ 64) (h : mStep l pos s.op s.k s.off s.num = some (a, m))
    (hV : w.cell? ⟨V, 0, none⟩ = some (.pointer (some ⟨T, 0, none⟩))) (hS : w.heap[S]? = some (.cells (stepC s).toArray 77)) (hA : w.heap[A]? = some (.cells #[x0, x1, x2, x3] 49)) (hAB : A ≠ B) (hAT : A ≠ T) :
    Calls Tryz.prog 27 #[.pointer (some ⟨V, 0, none⟩), .pointer (some ⟨S, 0, none⟩), .pointer (some ⟨A, 0, none⟩)] w fun e w' => e = .returned (.tuple #[]) ∧
      Fr (fun x => x = B ∨ x = A) w w' ∧ Tab w' T B m pos ∧ w'.heap[A]? = some (.cells (ansC a).toArray 49) := by
  have HC := Lib.hid (tableStep_ok T B pos s.off s.num s.op s.k l m a w hT hTl hn h)
  have s0 : w.cell? ⟨S, 0, none⟩ = some (.int .u8 s.op) := by rw [cell_of hS]; rfl
  have s1 : w.cell? ⟨S, 1, none⟩ = some (.int .u8 s.k) := by rw [cell_of hS]; rfl
  have s2 : w.cell? ⟨S, 2, none⟩ = some (.int .u32 s.off) := by rw [cell_of hS]; rfl
  have s3 : w.cell? ⟨S, 3, none⟩ = some (.int .u64 s.num) := by rw [cell_of hS]; rfl
  have HA := Lib.hid hA
  have HL := Lib.hid (lt_of_block hA)
  have HX := Lib.hid (And.intro hAB hAT)
  clear hT hTl hn h hS hA hAB hAT
  go_enter Tryz.func27, Tryz.ntmps27
  go_wp2_with fail
  refine HC.out.mono ?_
  rintro e w' ⟨rfl, hf, hT'⟩
  have hb := (hf.block A HL.out HX.out.1).trans HA.out
  have c0 : w'.cell? ⟨A, 0, none⟩ = some x0 := by rw [cell_of hb]; rfl
  have c1 : w'.cell? ⟨A, 1, none⟩ = some x1 := by rw [cell_of hb]; rfl
  have c2 : w'.cell? ⟨A, 2, none⟩ = some x2 := by rw [cell_of hb]; rfl
  have c3 : w'.cell? ⟨A, 3, none⟩ = some x3 := by rw [cell_of hb]; rfl
  have f0 := frozen_of hb 0
  have f1 := frozen_of hb 1
  have f2 := frozen_of hb 2
  have f3 := frozen_of hb 3
  have HF := Lib.hid hf
  have HT := Lib.hid hT'
  have HB := Lib.hid hb
  clear hf hT' hb
  unfold ansV
  go_wp2_with fail
  go_end0
  refine ⟨rfl, ?_, ?_, ?_⟩
  · exact ((((HF.out.mono (S' := fun x => x = B ∨ x = A) (fun _ _ h => .inl h)).setCell (fun _ => .inr rfl) _).setCell (fun _ => .inr rfl) _).setCell (fun _ => .inr rfl) _).setCell (fun _ => .inr rfl) _
  · exact tab_set (tab_set (tab_set (tab_set HT.out HX.out.2 HX.out.1.symm) HX.out.2 HX.out.1.symm) HX.out.2 HX.out.1.symm) HX.out.2 HX.out.1.symm
  · exact heap_setCell_same (heap_setCell_same (heap_setCell_same (heap_setCell_same HB.out 0 _) 1 _) 2 _) 3 _

theorem run1_falls (T B V S A pos : Nat) (s : Stp) (l : List UInt8) (w : World) (hT : Tab w T B l pos) (hTl : T < w.heap.size) (hn : s.num < 2 ^ 64) (h : mStep l pos s.op s.k s.off s.num = none)
    (hV : w.cell? ⟨V, 0, none⟩ = some (.pointer (some ⟨T, 0, none⟩))) (hS : w.heap[S]? = some (.cells (stepC s).toArray 77)) :
    Calls Tryz.prog 27 #[.pointer (some ⟨V, 0, none⟩), .pointer (some ⟨S, 0, none⟩), .pointer (some ⟨A, 0, none⟩)] w (Falls w) := by
  have HC := Lib.hid (tableStep_falls T B pos s.off s.num s.op s.k l w hT hTl hn h)
  have s0 : w.cell? ⟨S, 0, none⟩ = some (.int .u8 s.op) := by rw [cell_of hS]; rfl
  have s1 : w.cell? ⟨S, 1, none⟩ = some (.int .u8 s.k) := by rw [cell_of hS]; rfl
  have s2 : w.cell? ⟨S, 2, none⟩ = some (.int .u32 s.off) := by rw [cell_of hS]; rfl
  have s3 : w.cell? ⟨S, 3, none⟩ = some (.int .u64 s.num) := by rw [cell_of hS]; rfl
  clear hT hTl hn h hS
  go_enter Tryz.func27, Tryz.ntmps27
  go_wp2_with fail
  refine HC.out.mono ?_
  rintro e w' ⟨⟨u, x, rfl⟩, hf⟩
  exact ⟨rfl, ⟨u, x, rfl⟩, hf⟩

theorem enterRun1 (caps : Array Value) (w : World) : (callFunc 27 caps).run Tryz.prog w = .ok (.enter 27 caps) w := by kernel_rfl

theorem Tab.fr2 {w w' : World} {S : Nat → Prop} {T B : Nat} {l : List UInt8} {pos : Nat} (h : Tab w T B l pos) (hf : Fr S w w') (hTl : T < w.heap.size) (hT : ¬ S T) (hB : ¬ S B) : Tab w' T B l pos :=
  ⟨(Fr.cell hf hTl hT).trans h.t, (Fr.cell hf hTl hT).trans h.p, (hf.block B (lt_of_block h.b) hB).trans h.b, h.hl, h.hp⟩

/-- The function value called by thrown: it returns. -/
theorem thrown_step_ok (T B V S A pos : Nat) (s : Stp) (l m : List UInt8) (a : Ans) (x0 x1 x2 x3 : Value) (w : World) (hT : Tab w T B l pos) (hTl : T < w.heap.size) (hn : s.num < 2 ^ 64) (h : mStep l pos s.op s.k s.off s.num = some (a, m))
    (hVl : V < w.heap.size) (hV : w.cell? ⟨V, 0, none⟩ = some (.pointer (some ⟨T, 0, none⟩))) (hS : w.heap[S]? = some (.cells (stepC s).toArray 77)) (hA : w.heap[A]? = some (.cells #[x0, x1, x2, x3] 49)) (hAB : A ≠ B) (hAT : A ≠ T) :
    Calls Tryz.prog 26 #[.func (.func 27) #[] #[.pointer (some ⟨V, 0, none⟩), .pointer (some ⟨S, 0, none⟩), .pointer (some ⟨A, 0, none⟩)]] w fun e w' => e = .returned (.bool false) ∧
      Fr (fun x => x = B ∨ x = A) w w' ∧ Tab w' T B m pos ∧ w'.heap[A]? = some (.cells (ansC a).toArray 49) := by
  have hBl := lt_of_block hT.b
  have hAl := lt_of_block hA
  have hSl := lt_of_block hS
  have h1 := run1_ok T B V S A pos s l m a x0 x1 x2 x3 (w.alloc thrownVar) (hT.fr ((Fr.refl _ w).alloc _) hTl) (by simp; omega) hn h
    ((Fr.cell (S := fun _ => False) ((Fr.refl _ w).alloc _) hVl (fun x => x)).trans hV) ((heap_alloc_old _ _ _ hSl).trans hS) ((heap_alloc_old _ _ _ hAl).trans hA) hAB hAT
  refine (thrown_ok (S := fun x => x = B ∨ x = A) (R := fun w' => Fr (fun x => x = B ∨ x = A) (w.alloc thrownVar) w' ∧ Tab w' T B m pos ∧ w'.heap[A]? = some (.cells (ansC a).toArray 49)) (fun w => enterRun1 _ w) h1 (fun _ h => h.1) (by omega)).mono ?_
  rintro e w' ⟨rfl, w1, ⟨hf, ht, hb⟩, hf2⟩
  have hsz := hf.size
  have hsz0 : (w.alloc thrownVar).heap.size = w.heap.size + 1 := by simp
  refine ⟨rfl, ?_, ht.fr2 hf2 (by omega) (by omega) (by omega), (hf2.block A (by omega) (by omega)).trans hb⟩
  exact (((Fr.refl _ w).alloc thrownVar).trans2 (S := fun x => x = B ∨ x = A) hf (fun _ _ h => h)).trans2 hf2 (fun i hi h => absurd h (by omega))
/-- It panics. -/
theorem thrown_step_falls (T B V S A pos : Nat) (s : Stp) (l : List UInt8) (w : World) (hT : Tab w T B l pos) (hTl : T < w.heap.size) (hn : s.num < 2 ^ 64) (h : mStep l pos s.op s.k s.off s.num = none)
    (hVl : V < w.heap.size) (hV : w.cell? ⟨V, 0, none⟩ = some (.pointer (some ⟨T, 0, none⟩))) (hS : w.heap[S]? = some (.cells (stepC s).toArray 77)) :
    Calls Tryz.prog 26 #[.func (.func 27) #[] #[.pointer (some ⟨V, 0, none⟩), .pointer (some ⟨S, 0, none⟩), .pointer (some ⟨A, 0, none⟩)]] w fun e w' => e = .returned (.bool true) ∧ Fr0 w w' := by
  have hSl := lt_of_block hS
  have h1 := run1_falls T B V S A pos s l (w.alloc thrownVar) (hT.fr ((Fr.refl _ w).alloc _) hTl) (by simp; omega) hn h
    ((Fr.cell (S := fun _ => False) ((Fr.refl _ w).alloc _) hVl (fun x => x)).trans hV) ((heap_alloc_old _ _ _ hSl).trans hS)
  refine (thrown_panics (S := fun _ => False) (R := fun w' => Fr0 (w.alloc thrownVar) w') (fun w => enterRun1 _ w) h1 (fun _ h => h) (fun x => x)).mono ?_
  rintro e w' ⟨rfl, w1, hf, hf2⟩
  exact ⟨rfl, (((Fr.refl _ w).alloc thrownVar).trans2 (S := fun _ => False) hf (fun _ _ h => h)).trans2 hf2 (fun i hi h => absurd h (by omega))⟩

end Go.Proofs.YtjfgippolckaeaaGreat
