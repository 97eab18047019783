/- The reference: spec.TableDo, step by step. -/
import Derived.Test.YtjfgippolckaeaaGreatSpecTab2
namespace Go.Proofs.YtjfgippolckaeaaGreat
open Go.RowKit
set_option linter.unusedVariables false
set_option linter.unusedSimpArgs false

theorem results_cell_tmp2 {fn : Func} {p u v : Tmp} {ty : TypeId} (h : fn.results = #[.cell p ty, .tmp u, .tmp v]) (tmps : Array Value) (P : Program) (w : World) :
    (results fn tmps).run P w =
      ((asAddr (tmps.getD p undef)).run P w).andThen fun a w₁ => ((loadVar ty a).run P w₁).andThen fun x w₂ => .ok (.tuple #[x, tmps.getD u undef, tmps.getD v undef]) w₂ := by
  simp only [results, h]
  simp [Sem.run_bind, Result.andThen]
theorem results_row_tmp2 {P : Program} {fn : Func} {p u v : Tmp} {ty : TypeId} (h : fn.results = #[.cell p ty, .tmp u, .tmp v]) (tmps : Array Value) (w : World) (g : Nat) (t : TypeId) (cs : Array Value) (fr : Nat × Nat) (d : TypeDesc)
    (hp : tmps.getD p undef = .pointer (some ⟨g, 0, none⟩)) (hg : w.heap[g]? = some (.cells cs t fr))
    (hu : P.underlying ty = some d) (hd : (match d with | .struct _ | .array _ _ => true | _ => false) = true) (hi : (P.info? ty).map (·.size) = some cs.size) :
    (results fn tmps).run P w = .ok (.tuple #[.agg cs, tmps.getD u undef, tmps.getD v undef]) w := by
  rw [results_cell_tmp2 h, hp]
  simp [asAddr, run_loadVar_row w g t ty cs fr d hg hu hd hi, Result.andThen]
theorem two_new (w : World) (a b : Obj) : ((w.alloc a).alloc b).heap[w.heap.size + 1]? = some b := by
  have := heap_alloc_new (w.alloc a) b
  rwa [size_alloc] at this

/-- What TableDo answers: the answer, the bytes, how it ends. -/
def tdV (r : Ans × List UInt8 × Nat) : Value := .tuple #[.agg (ansC r.1).toArray, .string (strOf r.2.1), .int .u8 r.2.2]
theorem sJump_lt (l : List UInt8) (p : Nat) : (sJump l p).1 < 4294967296 := by unfold sJump w32; simp only; omega

/-- Whether a kind has slots, as it is asked. -/
def slotB (k : Int) (m : Bool) : Bool := decide (k ≤ 10) || k == 32 || (k == 35 && !m)
theorem Slotted_calls (k : Int) (m : Bool) (w : World) : Calls Tryz.prog 22 #[.int .u8 k, .bool m] w fun e w' => e = .returned (.bool (slotB k m)) ∧ w = w' := by
  unfold slotB
  by_cases h1 : k ≤ 10
  · go_enter Tryz.func22, Tryz.ntmps22
    go_wp2
    go_ret
    exact ⟨by simp [h1], rfl⟩
  by_cases h2 : k = 32
  · subst h2
    go_enter Tryz.func22, Tryz.ntmps22
    go_wp2
    go_ret
    exact ⟨by simp, rfl⟩
  by_cases h3 : k = 35
  · subst h3
    cases m
    all_goals
      go_enter Tryz.func22, Tryz.ntmps22
      go_wp2
      go_ret
      exact ⟨by simp, rfl⟩
  · have b2 : (k == 32) = false := by simp [h2]
    have b3 : (k == 35) = false := by simp [h3]
    go_enter Tryz.func22, Tryz.ntmps22
    go_wp2
    go_ret
    exact ⟨by simp [h1, b2, b3], rfl⟩
theorem slotB_eq (k : Int) (m : Bool) (h : numSize k ≠ 0) : slotB k m = slotted k m := by
  unfold slotB slotted
  simp [h]
theorem sOffset_lt (l : List UInt8) (pos slot : Nat) : (sOffset l pos slot).1 < 65536 := by
  unfold sOffset
  have h : ∀ p, (numAt l 35 p).1 < 65536 := fun p => by have := numAt_lt l 35 p; simpa [numSize] using this
  dsimp only
  split
  · show (0 : Nat) < 65536
    omega
  · split
    · show (0 : Nat) < 65536
      omega
    · exact h _
theorem numAt_ends (l : List UInt8) (k : Int) (p : Nat) : ∃ n e, numAt l k p = (n, e) ∧ (e = 0 ∨ e = 1 ∨ e = 2) := by
  rcases numAt_cases l k p with ⟨_, h⟩ | ⟨n, _, _, _, h⟩ | ⟨n, _, _, h⟩
  · exact ⟨_, _, h, .inr (.inl rfl)⟩
  · exact ⟨_, _, h, .inr (.inr rfl)⟩
  · exact ⟨_, _, h, .inl rfl⟩
theorem le_numB_bool3 (k : Int) (n : Nat) : ¬ (k = 0 ∧ 1 < le (numB k n)) := by
  rintro ⟨rfl, h⟩
  have e : numB 0 n = leB 1 (if (0 : Int) = 0 ∧ n ≠ 0 then 1 else n) := rfl
  rw [e, le_leB] at h
  split at h
  · simp at h
  · have : n = 0 := by simp_all
    subst this; simp at h
theorem numAt_own2 (k : Int) (n : Nat) (hk : 0 < numSize k) : numAt (numB k n) k 0 = (le (numB k n), 0) := by
  unfold numAt
  rw [if_neg (by rw [numB_length]; omega), if_neg]
  · rw [List.drop_zero, List.take_of_length_le (by rw [numB_length]; exact Nat.le_refl _)]
  · rw [List.drop_zero, List.take_of_length_le (by rw [numB_length]; exact Nat.le_refl _)]
    exact le_numB_bool3 k n
theorem defVal_eq (k : Int) (n : Nat) : le (numB k n) = defVal k n := by
  unfold numB defVal
  rw [le_leB]
  by_cases h : k = 0
  · subst h
    by_cases h2 : n = 0
    · subst h2; simp
    · simp [h2, numSize]
  · simp [h, Nat.pow_mul]
theorem step_cell (w : World) {cs : Array Value} {t : TypeId} (b : Obj) (hb : Obj) (i : Nat) (u : Value) (h : cs[i]? = some u) : ((w.alloc (.cells cs t)).alloc b).cell? ⟨w.heap.size, i, none⟩ = some u := by
  have h1 : ((w.alloc (.cells cs t)).alloc b).heap[w.heap.size]? = some (.cells cs t) := by
    rw [heap_alloc_old _ _ _ (by simp)]
    exact heap_alloc_new w _
  rw [cell_of h1]; exact h
/-- The block of the answer behind a call. -/
theorem ans_after {w w3 : World} {a b : Obj} (hf : Fr0 ((w.alloc a).alloc b) w3) : w3.heap[w.heap.size + 1]? = some b :=
  (hf.block (w.heap.size + 1) (by simp) (fun x => x)).trans (two_new w a b)
end Go.Proofs.YtjfgippolckaeaaGreat
