/- The kinds put together: tableGet, tableGetSlot, tableMutate, tableMutateSlot, and tableStep, which does what mStep says. -/
import Derived.Test.YtjfgippolckaeaaGreatTabStep
import Derived.Test.YtjfgippolckaeaaGreatTabMut
namespace Go.Proofs.YtjfgippolckaeaaGreat
open Go.RowKit
set_option linter.unusedVariables false
set_option linter.unusedSimpArgs false

theorem slotted_kinds (k : Int) (m : Bool) (h : slotted k m = true) : k = 0 ∨ k = 1 ∨ k = 2 ∨ k = 3 ∨ k = 4 ∨ k = 5 ∨ k = 6 ∨ k = 7 ∨ k = 8 ∨ k = 9 ∨ k = 10 ∨ k = 32 ∨ (k = 35 ∧ m = false) := by
  unfold slotted at h
  simp only [Bool.and_eq_true, Bool.or_eq_true, decide_eq_true_eq, beq_iff_eq, Bool.not_eq_true'] at h
  obtain ⟨h1, h2⟩ := h
  rcases kinds_of k (by omega) with rfl | rfl | rfl | rfl | rfl | rfl | rfl | rfl | rfl | rfl | rfl | rfl | rfl | rfl | rfl <;> simp_all

theorem tableGet_nokind (v u : Value) (k : Int) (w : World) (h : numSize k = 0) :
    Calls Tryz.prog 38 #[v, .int .u8 k, u] w (Dies w) := by
  have h0 : (k == 0) = false := by rw [beq_eq_false_iff_ne]; intro e; subst e; revert h; decide
  have h1 : (k == 1) = false := by rw [beq_eq_false_iff_ne]; intro e; subst e; revert h; decide
  have h2 : (k == 2) = false := by rw [beq_eq_false_iff_ne]; intro e; subst e; revert h; decide
  have h3 : (k == 3) = false := by rw [beq_eq_false_iff_ne]; intro e; subst e; revert h; decide
  have h4 : (k == 4) = false := by rw [beq_eq_false_iff_ne]; intro e; subst e; revert h; decide
  have h5 : (k == 5) = false := by rw [beq_eq_false_iff_ne]; intro e; subst e; revert h; decide
  have h6 : (k == 6) = false := by rw [beq_eq_false_iff_ne]; intro e; subst e; revert h; decide
  have h7 : (k == 7) = false := by rw [beq_eq_false_iff_ne]; intro e; subst e; revert h; decide
  have h8 : (k == 8) = false := by rw [beq_eq_false_iff_ne]; intro e; subst e; revert h; decide
  have h9 : (k == 9) = false := by rw [beq_eq_false_iff_ne]; intro e; subst e; revert h; decide
  have h10 : (k == 10) = false := by rw [beq_eq_false_iff_ne]; intro e; subst e; revert h; decide
  have h32 : (k == 32) = false := by rw [beq_eq_false_iff_ne]; intro e; subst e; revert h; decide
  have h33 : (k == 33) = false := by rw [beq_eq_false_iff_ne]; intro e; subst e; revert h; decide
  have h34 : (k == 34) = false := by rw [beq_eq_false_iff_ne]; intro e; subst e; revert h; decide
  have h35 : (k == 35) = false := by rw [beq_eq_false_iff_ne]; intro e; subst e; revert h; decide
  clear h
  go_enter Tryz.func38, Tryz.ntmps38
  go_wp2
  exact ⟨rfl, ⟨_, _, rfl⟩, 0, rfl⟩
theorem tableMutate_nokind (v u x : Value) (k : Int) (w : World) (h : numSize k = 0) :
    Calls Tryz.prog 45 #[v, .int .u8 k, u, x] w (Dies w) := by
  have h0 : (k == 0) = false := by rw [beq_eq_false_iff_ne]; intro e; subst e; revert h; decide
  have h1 : (k == 1) = false := by rw [beq_eq_false_iff_ne]; intro e; subst e; revert h; decide
  have h2 : (k == 2) = false := by rw [beq_eq_false_iff_ne]; intro e; subst e; revert h; decide
  have h3 : (k == 3) = false := by rw [beq_eq_false_iff_ne]; intro e; subst e; revert h; decide
  have h4 : (k == 4) = false := by rw [beq_eq_false_iff_ne]; intro e; subst e; revert h; decide
  have h5 : (k == 5) = false := by rw [beq_eq_false_iff_ne]; intro e; subst e; revert h; decide
  have h6 : (k == 6) = false := by rw [beq_eq_false_iff_ne]; intro e; subst e; revert h; decide
  have h7 : (k == 7) = false := by rw [beq_eq_false_iff_ne]; intro e; subst e; revert h; decide
  have h8 : (k == 8) = false := by rw [beq_eq_false_iff_ne]; intro e; subst e; revert h; decide
  have h9 : (k == 9) = false := by rw [beq_eq_false_iff_ne]; intro e; subst e; revert h; decide
  have h10 : (k == 10) = false := by rw [beq_eq_false_iff_ne]; intro e; subst e; revert h; decide
  have h32 : (k == 32) = false := by rw [beq_eq_false_iff_ne]; intro e; subst e; revert h; decide
  have h33 : (k == 33) = false := by rw [beq_eq_false_iff_ne]; intro e; subst e; revert h; decide
  have h34 : (k == 34) = false := by rw [beq_eq_false_iff_ne]; intro e; subst e; revert h; decide
  have h35 : (k == 35) = false := by rw [beq_eq_false_iff_ne]; intro e; subst e; revert h; decide
  clear h
  go_enter Tryz.func45, Tryz.ntmps45
  go_wp2
  exact ⟨rfl, ⟨_, _, rfl⟩, 0, rfl⟩
theorem tableGetSlot_nokind (v u x : Value) (k : Int) (w : World) (h : slotted k false = false) :
    Calls Tryz.prog 37 #[v, .int .u8 k, u, x] w (Dies w) := by
  have h0 : (k == 0) = false := by rw [beq_eq_false_iff_ne]; intro e; subst e; revert h; decide
  have h1 : (k == 1) = false := by rw [beq_eq_false_iff_ne]; intro e; subst e; revert h; decide
  have h2 : (k == 2) = false := by rw [beq_eq_false_iff_ne]; intro e; subst e; revert h; decide
  have h3 : (k == 3) = false := by rw [beq_eq_false_iff_ne]; intro e; subst e; revert h; decide
  have h4 : (k == 4) = false := by rw [beq_eq_false_iff_ne]; intro e; subst e; revert h; decide
  have h5 : (k == 5) = false := by rw [beq_eq_false_iff_ne]; intro e; subst e; revert h; decide
  have h6 : (k == 6) = false := by rw [beq_eq_false_iff_ne]; intro e; subst e; revert h; decide
  have h7 : (k == 7) = false := by rw [beq_eq_false_iff_ne]; intro e; subst e; revert h; decide
  have h8 : (k == 8) = false := by rw [beq_eq_false_iff_ne]; intro e; subst e; revert h; decide
  have h9 : (k == 9) = false := by rw [beq_eq_false_iff_ne]; intro e; subst e; revert h; decide
  have h10 : (k == 10) = false := by rw [beq_eq_false_iff_ne]; intro e; subst e; revert h; decide
  have h32 : (k == 32) = false := by rw [beq_eq_false_iff_ne]; intro e; subst e; revert h; decide
  have h35 : (k == 35) = false := by rw [beq_eq_false_iff_ne]; intro e; subst e; revert h; decide
  clear h
  go_enter Tryz.func37, Tryz.ntmps37
  go_wp2
  exact ⟨rfl, ⟨_, _, rfl⟩, 0, rfl⟩
theorem tableMutateSlot_nokind (v u x : Value) (k : Int) (w : World) (h : slotted k true = false) :
    Calls Tryz.prog 46 #[v, .int .u8 k, u, x] w (Dies w) := by
  have h0 : (k == 0) = false := by rw [beq_eq_false_iff_ne]; intro e; subst e; revert h; decide
  have h1 : (k == 1) = false := by rw [beq_eq_false_iff_ne]; intro e; subst e; revert h; decide
  have h2 : (k == 2) = false := by rw [beq_eq_false_iff_ne]; intro e; subst e; revert h; decide
  have h3 : (k == 3) = false := by rw [beq_eq_false_iff_ne]; intro e; subst e; revert h; decide
  have h4 : (k == 4) = false := by rw [beq_eq_false_iff_ne]; intro e; subst e; revert h; decide
  have h5 : (k == 5) = false := by rw [beq_eq_false_iff_ne]; intro e; subst e; revert h; decide
  have h6 : (k == 6) = false := by rw [beq_eq_false_iff_ne]; intro e; subst e; revert h; decide
  have h7 : (k == 7) = false := by rw [beq_eq_false_iff_ne]; intro e; subst e; revert h; decide
  have h8 : (k == 8) = false := by rw [beq_eq_false_iff_ne]; intro e; subst e; revert h; decide
  have h9 : (k == 9) = false := by rw [beq_eq_false_iff_ne]; intro e; subst e; revert h; decide
  have h10 : (k == 10) = false := by rw [beq_eq_false_iff_ne]; intro e; subst e; revert h; decide
  have h32 : (k == 32) = false := by rw [beq_eq_false_iff_ne]; intro e; subst e; revert h; decide
  clear h
  go_enter Tryz.func46, Tryz.ntmps46
  go_wp2
  exact ⟨rfl, ⟨_, _, rfl⟩, 0, rfl⟩

theorem tableGet_ok (T B pos off n : Nat) (k : Int) (l : List UInt8) (w : World) (hT : Tab w T B l pos) (h : mGet l k off = some n) :
    Calls Tryz.prog 38 #[.pointer (some ⟨T, 0, none⟩), .int .u8 k, .int .u32 off] w fun e w' => e = .returned (.int .u64 (numVal k n)) ∧ w = w' := by
  rcases kinds_of k (Nat.pos_of_ne_zero (mGet_some h).1) with rfl | rfl | rfl | rfl | rfl | rfl | rfl | rfl | rfl | rfl | rfl | rfl | rfl | rfl | rfl
  · exact tableGet_0 T B pos off n l w hT h
  · exact tableGet_1 T B pos off n l w hT h
  · exact tableGet_2 T B pos off n l w hT h
  · exact tableGet_3 T B pos off n l w hT h
  · exact tableGet_4 T B pos off n l w hT h
  · exact tableGet_5 T B pos off n l w hT h
  · exact tableGet_6 T B pos off n l w hT h
  · exact tableGet_7 T B pos off n l w hT h
  · exact tableGet_8 T B pos off n l w hT h
  · exact tableGet_9 T B pos off n l w hT h
  · exact tableGet_10 T B pos off n l w hT h
  · exact tableGet_32 T B pos off n l w hT h
  · exact tableGet_33 T B pos off n l w hT h
  · exact tableGet_34 T B pos off n l w hT h
  · exact tableGet_35 T B pos off n l w hT h
theorem tableGet_dies (T B pos off : Nat) (k : Int) (l : List UInt8) (w : World) (hT : Tab w T B l pos) (h : mGet l k off = none) :
    Calls Tryz.prog 38 #[.pointer (some ⟨T, 0, none⟩), .int .u8 k, .int .u32 off] w (Dies w) := by
  by_cases h0 : numSize k = 0
  · exact tableGet_nokind _ _ k w h0
  · rcases kinds_of k (Nat.pos_of_ne_zero h0) with rfl | rfl | rfl | rfl | rfl | rfl | rfl | rfl | rfl | rfl | rfl | rfl | rfl | rfl | rfl
    · exact tableGet_0_dies T B pos off l w hT h
    · exact tableGet_1_dies T B pos off l w hT h
    · exact tableGet_2_dies T B pos off l w hT h
    · exact tableGet_3_dies T B pos off l w hT h
    · exact tableGet_4_dies T B pos off l w hT h
    · exact tableGet_5_dies T B pos off l w hT h
    · exact tableGet_6_dies T B pos off l w hT h
    · exact tableGet_7_dies T B pos off l w hT h
    · exact tableGet_8_dies T B pos off l w hT h
    · exact tableGet_9_dies T B pos off l w hT h
    · exact tableGet_10_dies T B pos off l w hT h
    · exact tableGet_32_dies T B pos off l w hT h
    · exact tableGet_33_dies T B pos off l w hT h
    · exact tableGet_34_dies T B pos off l w hT h
    · exact tableGet_35_dies T B pos off l w hT h

theorem tableGetSlot_ok (T B pos slot n v : Nat) (k : Int) (l : List UInt8) (w : World) (hT : Tab w T B l pos) (hs : slot < 65536) (hn : n < 2 ^ 64) (h : mGetSlot l pos k slot n = some v) :
    Calls Tryz.prog 37 #[.pointer (some ⟨T, 0, none⟩), .int .u8 k, .int .u16 slot, .int .u64 n] w fun e w' => e = .returned (.int .u64 v) ∧ ∃ m, w' = w.drewN m := by
  unfold mGetSlot at h
  cases hsl : slotted k false with
  | false => rw [hsl] at h; simp at h
  | true =>
    rw [hsl, if_pos rfl] at h
    obtain ⟨o, ho, h⟩ := Option.bind_eq_some_iff.1 h
    by_cases h0 : o = 0
    · rw [if_pos h0] at h
      injection h with h
      subst h h0
      rcases slotted_kinds k false hsl with rfl | rfl | rfl | rfl | rfl | rfl | rfl | rfl | rfl | rfl | rfl | rfl | ⟨rfl, _⟩
      · exact tableGetSlot_0_def T B pos slot n l w hT hs hn ho
      · exact tableGetSlot_1_def T B pos slot n l w hT hs hn ho
      · exact tableGetSlot_2_def T B pos slot n l w hT hs hn ho
      · exact tableGetSlot_3_def T B pos slot n l w hT hs hn ho
      · exact tableGetSlot_4_def T B pos slot n l w hT hs hn ho
      · exact tableGetSlot_5_def T B pos slot n l w hT hs hn ho
      · exact tableGetSlot_6_def T B pos slot n l w hT hs hn ho
      · exact tableGetSlot_7_def T B pos slot n l w hT hs hn ho
      · exact tableGetSlot_8_def T B pos slot n l w hT hs hn ho
      · exact tableGetSlot_9_def T B pos slot n l w hT hs hn ho
      · exact tableGetSlot_10_def T B pos slot n l w hT hs hn ho
      · exact tableGetSlot_32_def T B pos slot n l w hT hs hn ho
      · exact tableGetSlot_35_def T B pos slot n l w hT hs hn ho
    · rw [if_neg h0] at h
      by_cases h35 : k = 35
      · subst h35
        rw [if_pos rfl] at h
        injection h with h
        subst h
        exact tableGetSlot_35_ok T B pos slot n o l w hT hs hn ho h0
      · rw [if_neg h35] at h
        obtain ⟨x, hx, rfl⟩ := Option.map_eq_some_iff.1 h
        rcases slotted_kinds k false hsl with rfl | rfl | rfl | rfl | rfl | rfl | rfl | rfl | rfl | rfl | rfl | rfl | ⟨rfl, _⟩
        · exact tableGetSlot_0_ok T B pos slot n o x l w hT hs hn ho h0 hx
        · exact tableGetSlot_1_ok T B pos slot n o x l w hT hs hn ho h0 hx
        · exact tableGetSlot_2_ok T B pos slot n o x l w hT hs hn ho h0 hx
        · exact tableGetSlot_3_ok T B pos slot n o x l w hT hs hn ho h0 hx
        · exact tableGetSlot_4_ok T B pos slot n o x l w hT hs hn ho h0 hx
        · exact tableGetSlot_5_ok T B pos slot n o x l w hT hs hn ho h0 hx
        · exact tableGetSlot_6_ok T B pos slot n o x l w hT hs hn ho h0 hx
        · exact tableGetSlot_7_ok T B pos slot n o x l w hT hs hn ho h0 hx
        · exact tableGetSlot_8_ok T B pos slot n o x l w hT hs hn ho h0 hx
        · exact tableGetSlot_9_ok T B pos slot n o x l w hT hs hn ho h0 hx
        · exact tableGetSlot_10_ok T B pos slot n o x l w hT hs hn ho h0 hx
        · exact tableGetSlot_32_ok T B pos slot n o x l w hT hs hn ho h0 hx
        · exact absurd rfl h35
theorem tableGetSlot_dies (T B pos slot n : Nat) (k : Int) (l : List UInt8) (w : World) (hT : Tab w T B l pos) (hs : slot < 65536) (hn : n < 2 ^ 64) (h : mGetSlot l pos k slot n = none) :
    Calls Tryz.prog 37 #[.pointer (some ⟨T, 0, none⟩), .int .u8 k, .int .u16 slot, .int .u64 n] w (Dies w) := by
  unfold mGetSlot at h
  cases hsl : slotted k false with
  | false => exact tableGetSlot_nokind _ _ _ k w hsl
  | true =>
    rw [hsl, if_pos rfl] at h
    cases ho : mOffset l pos slot with
    | none =>
      rcases slotted_kinds k false hsl with rfl | rfl | rfl | rfl | rfl | rfl | rfl | rfl | rfl | rfl | rfl | rfl | ⟨rfl, _⟩
      · exact tableGetSlot_0_dies T B pos slot n l w hT hs hn ho
      · exact tableGetSlot_1_dies T B pos slot n l w hT hs hn ho
      · exact tableGetSlot_2_dies T B pos slot n l w hT hs hn ho
      · exact tableGetSlot_3_dies T B pos slot n l w hT hs hn ho
      · exact tableGetSlot_4_dies T B pos slot n l w hT hs hn ho
      · exact tableGetSlot_5_dies T B pos slot n l w hT hs hn ho
      · exact tableGetSlot_6_dies T B pos slot n l w hT hs hn ho
      · exact tableGetSlot_7_dies T B pos slot n l w hT hs hn ho
      · exact tableGetSlot_8_dies T B pos slot n l w hT hs hn ho
      · exact tableGetSlot_9_dies T B pos slot n l w hT hs hn ho
      · exact tableGetSlot_10_dies T B pos slot n l w hT hs hn ho
      · exact tableGetSlot_32_dies T B pos slot n l w hT hs hn ho
      · exact tableGetSlot_35_dies T B pos slot n l w hT hs hn ho
    | some o =>
      rw [ho, Option.bind_some] at h
      by_cases h0 : o = 0
      · rw [if_pos h0] at h; cases h
      · rw [if_neg h0] at h
        by_cases h35 : k = 35
        · rw [if_pos h35] at h; cases h
        · rw [if_neg h35] at h
          have hx : mGet l k (w32 (pos + o)) = none := by simpa using h
          rcases slotted_kinds k false hsl with rfl | rfl | rfl | rfl | rfl | rfl | rfl | rfl | rfl | rfl | rfl | rfl | ⟨rfl, _⟩
          · exact tableGetSlot_0_out T B pos slot n o l w hT hs hn ho h0 hx
          · exact tableGetSlot_1_out T B pos slot n o l w hT hs hn ho h0 hx
          · exact tableGetSlot_2_out T B pos slot n o l w hT hs hn ho h0 hx
          · exact tableGetSlot_3_out T B pos slot n o l w hT hs hn ho h0 hx
          · exact tableGetSlot_4_out T B pos slot n o l w hT hs hn ho h0 hx
          · exact tableGetSlot_5_out T B pos slot n o l w hT hs hn ho h0 hx
          · exact tableGetSlot_6_out T B pos slot n o l w hT hs hn ho h0 hx
          · exact tableGetSlot_7_out T B pos slot n o l w hT hs hn ho h0 hx
          · exact tableGetSlot_8_out T B pos slot n o l w hT hs hn ho h0 hx
          · exact tableGetSlot_9_out T B pos slot n o l w hT hs hn ho h0 hx
          · exact tableGetSlot_10_out T B pos slot n o l w hT hs hn ho h0 hx
          · exact tableGetSlot_32_out T B pos slot n o l w hT hs hn ho h0 hx
          · exact absurd rfl h35

/-- A change of some bytes of the Table's. -/
theorem splice_put (l x : List UInt8) (p : Nat) (h : p + x.length ≤ l.length) : splice (cellsOf l).toArray p (cellsOf x) = (cellsOf (l.take p ++ x ++ l.drop (p + x.length))).toArray := by
  simp [splice, cellsOf, List.map_take, List.map_drop]
theorem Tab.ne {w : World} {T B : Nat} {l : List UInt8} {pos : Nat} (h : Tab w T B l pos) : T ≠ B := by
  intro e
  have h1 := h.t
  rw [e, cell_of h.b] at h1
  cases l with
  | nil => simp [cellsOf] at h1
  | cons x r => simp [cellsOf] at h1
theorem mPut_some {l m : List UInt8} {k : Int} {p n : Nat} (h : mPut l k p n = some m) : numSize k ≠ 0 ∧ p + numSize k ≤ l.length ∧ m = l.take p ++ numB k n ++ l.drop (p + numSize k) := by
  unfold mPut at h
  split at h
  · cases h
  · rename_i hn
    refine ⟨fun e => hn (.inl e), by omega, ?_⟩
    injection h with h; exact h.symm
theorem mPut_none {l : List UInt8} {k : Int} {p n : Nat} (h : mPut l k p n = none) (hk : numSize k ≠ 0) : l.length < p + numSize k := by
  unfold mPut at h
  split at h
  · rename_i hn; exact hn.resolve_left hk
  · cases h
theorem mPut_length {l m : List UInt8} {k : Int} {p n : Nat} (h : mPut l k p n = some m) : m.length = l.length := by
  obtain ⟨_, h1, rfl⟩ := mPut_some h
  simp [numB_length]; omega
theorem tab_put {w : World} {T B pos p n : Nat} {k : Int} {l m : List UInt8} (hT : Tab w T B l pos) (h : mPut l k p n = some m) :
    Fr (fun x => x = B) w (w.setCells B p (cellsOf (numB k n))) ∧ Tab (w.setCells B p (cellsOf (numB k n))) T B m pos := by
  have hl := mPut_length h
  obtain ⟨_, h1, hm⟩ := mPut_some h
  have hlen := hT.hl
  refine ⟨Fr.setCells (S := fun x => x = B) (Fr.refl _ w) (fun _ => rfl) _ _, ?_, ?_, ?_, by omega, hT.hp⟩
  · rw [World.cell?_of_block (heap_setCells_other T hT.ne _ _ _), hl]; exact hT.t
  · rw [World.cell?_of_block (heap_setCells_other T hT.ne _ _ _)]; exact hT.p
  · have := heap_setCells_same (cellsOf (numB k n)) p _ w hT.b (by simp [cellsOf_length, numB_length, cellsOf]; omega)
    rw [splice_put l (numB k n) p (by rw [numB_length]; exact h1), numB_length, ← hm] at this
    exact this

theorem tableMutate_ok (T B pos off n : Nat) (k : Int) (l m : List UInt8) (w : World) (hT : Tab w T B l pos) (hn : n < 2 ^ 64) (h : mPut l k off n = some m) :
    Calls Tryz.prog 45 #[.pointer (some ⟨T, 0, none⟩), .int .u8 k, .int .u32 off, .int .u64 n] w (Steps w T B pos m (.bool true)) := by
  have hfin := tab_put hT h
  obtain ⟨h0, h1, _⟩ := mPut_some h
  refine Calls.mono ?_ (fun e w' (x : e = .returned (.bool true) ∧ w.setCells B off (cellsOf (numB k n)) = w') => by obtain ⟨he, hw⟩ := x; subst hw; exact ⟨he, hfin.1, hfin.2⟩)
  rcases kinds_of k (Nat.pos_of_ne_zero h0) with rfl | rfl | rfl | rfl | rfl | rfl | rfl | rfl | rfl | rfl | rfl | rfl | rfl | rfl | rfl
  · exact tableMutate_0 T B pos off n l w hT h1 hn
  · exact tableMutate_1 T B pos off n l w hT h1 hn
  · exact tableMutate_2 T B pos off n l w hT h1 hn
  · exact tableMutate_3 T B pos off n l w hT h1 hn
  · exact tableMutate_4 T B pos off n l w hT h1 hn
  · exact tableMutate_5 T B pos off n l w hT h1 hn
  · exact tableMutate_6 T B pos off n l w hT h1 hn
  · exact tableMutate_7 T B pos off n l w hT h1 hn
  · exact tableMutate_8 T B pos off n l w hT h1 hn
  · exact tableMutate_9 T B pos off n l w hT h1 hn
  · exact tableMutate_10 T B pos off n l w hT h1 hn
  · exact tableMutate_32 T B pos off n l w hT h1 hn
  · exact tableMutate_33 T B pos off n l w hT h1 hn
  · exact tableMutate_34 T B pos off n l w hT h1 hn
  · exact tableMutate_35 T B pos off n l w hT h1 hn
theorem tableMutate_dies (T B pos off n : Nat) (k : Int) (l : List UInt8) (w : World) (hT : Tab w T B l pos) (hn : n < 2 ^ 64) (h : mPut l k off n = none) :
    Calls Tryz.prog 45 #[.pointer (some ⟨T, 0, none⟩), .int .u8 k, .int .u32 off, .int .u64 n] w (Dies w) := by
  by_cases h0 : numSize k = 0
  · exact tableMutate_nokind _ _ _ k w h0
  · have h1 := mPut_none h h0
    rcases kinds_of k (Nat.pos_of_ne_zero h0) with rfl | rfl | rfl | rfl | rfl | rfl | rfl | rfl | rfl | rfl | rfl | rfl | rfl | rfl | rfl
    · exact tableMutate_0_dies T B pos off n l w hT h1 hn
    · exact tableMutate_1_dies T B pos off n l w hT h1 hn
    · exact tableMutate_2_dies T B pos off n l w hT h1 hn
    · exact tableMutate_3_dies T B pos off n l w hT h1 hn
    · exact tableMutate_4_dies T B pos off n l w hT h1 hn
    · exact tableMutate_5_dies T B pos off n l w hT h1 hn
    · exact tableMutate_6_dies T B pos off n l w hT h1 hn
    · exact tableMutate_7_dies T B pos off n l w hT h1 hn
    · exact tableMutate_8_dies T B pos off n l w hT h1 hn
    · exact tableMutate_9_dies T B pos off n l w hT h1 hn
    · exact tableMutate_10_dies T B pos off n l w hT h1 hn
    · exact tableMutate_32_dies T B pos off n l w hT h1 hn
    · exact tableMutate_33_dies T B pos off n l w hT h1 hn
    · exact tableMutate_34_dies T B pos off n l w hT h1 hn
    · exact tableMutate_35_dies T B pos off n l w hT h1 hn
theorem tableMutateSlot_ok (T B pos slot n : Nat) (b : Bool) (k : Int) (l m : List UInt8) (w : World) (hT : Tab w T B l pos) (hs : slot < 65536) (hn : n < 2 ^ 64) (h : mPutSlot l pos k slot n = some (b, m)) :
    Calls Tryz.prog 46 #[.pointer (some ⟨T, 0, none⟩), .int .u8 k, .int .u16 slot, .int .u64 n] w (Steps w T B pos m (.bool b)) := by
  unfold mPutSlot at h
  cases hsl : slotted k true with
  | false => rw [hsl] at h; simp at h
  | true =>
    rw [hsl, if_pos rfl] at h
    obtain ⟨o, ho, h⟩ := Option.bind_eq_some_iff.1 h
    by_cases h0 : o = 0
    · rw [if_pos h0] at h
      injection h with h
      injection h with hb hm
      subst hb hm h0
      refine steps_quiet hT ?_
      rcases slotted_kinds k true hsl with rfl | rfl | rfl | rfl | rfl | rfl | rfl | rfl | rfl | rfl | rfl | rfl | ⟨_, _⟩
      · exact tableMutateSlot_0_none T B pos slot n l w hT hs hn ho
      · exact tableMutateSlot_1_none T B pos slot n l w hT hs hn ho
      · exact tableMutateSlot_2_none T B pos slot n l w hT hs hn ho
      · exact tableMutateSlot_3_none T B pos slot n l w hT hs hn ho
      · exact tableMutateSlot_4_none T B pos slot n l w hT hs hn ho
      · exact tableMutateSlot_5_none T B pos slot n l w hT hs hn ho
      · exact tableMutateSlot_6_none T B pos slot n l w hT hs hn ho
      · exact tableMutateSlot_7_none T B pos slot n l w hT hs hn ho
      · exact tableMutateSlot_8_none T B pos slot n l w hT hs hn ho
      · exact tableMutateSlot_9_none T B pos slot n l w hT hs hn ho
      · exact tableMutateSlot_10_none T B pos slot n l w hT hs hn ho
      · exact tableMutateSlot_32_none T B pos slot n l w hT hs hn ho
      · cases ‹_ = _›
    · rw [if_neg h0] at h
      obtain ⟨x, hx, h⟩ := Option.map_eq_some_iff.1 h
      injection h with hb hm
      subst hb hm
      have hfin := fun mm => tab_put (hT.drewN mm) hx
      obtain ⟨_, h1, _⟩ := mPut_some hx
      refine Calls.mono ?_ (fun e w' (z : e = .returned (.bool true) ∧ ∃ mm, (w.drewN mm).setCells B (w32 (pos + o)) (cellsOf (numB k n)) = w') => by obtain ⟨he, mm, hw⟩ := z; subst hw; exact ⟨he, (hfin mm).1.fromDrewN, (hfin mm).2⟩)
      rcases slotted_kinds k true hsl with rfl | rfl | rfl | rfl | rfl | rfl | rfl | rfl | rfl | rfl | rfl | rfl | ⟨_, _⟩
      · exact tableMutateSlot_0_ok T B pos slot n o l w hT hs hn ho h0 h1
      · exact tableMutateSlot_1_ok T B pos slot n o l w hT hs hn ho h0 h1
      · exact tableMutateSlot_2_ok T B pos slot n o l w hT hs hn ho h0 h1
      · exact tableMutateSlot_3_ok T B pos slot n o l w hT hs hn ho h0 h1
      · exact tableMutateSlot_4_ok T B pos slot n o l w hT hs hn ho h0 h1
      · exact tableMutateSlot_5_ok T B pos slot n o l w hT hs hn ho h0 h1
      · exact tableMutateSlot_6_ok T B pos slot n o l w hT hs hn ho h0 h1
      · exact tableMutateSlot_7_ok T B pos slot n o l w hT hs hn ho h0 h1
      · exact tableMutateSlot_8_ok T B pos slot n o l w hT hs hn ho h0 h1
      · exact tableMutateSlot_9_ok T B pos slot n o l w hT hs hn ho h0 h1
      · exact tableMutateSlot_10_ok T B pos slot n o l w hT hs hn ho h0 h1
      · exact tableMutateSlot_32_ok T B pos slot n o l w hT hs hn ho h0 h1
      · cases ‹_ = _›
theorem tableMutateSlot_dies (T B pos slot n : Nat) (k : Int) (l : List UInt8) (w : World) (hT : Tab w T B l pos) (hs : slot < 65536) (hn : n < 2 ^ 64) (h : mPutSlot l pos k slot n = none) :
    Calls Tryz.prog 46 #[.pointer (some ⟨T, 0, none⟩), .int .u8 k, .int .u16 slot, .int .u64 n] w (Dies w) := by
  unfold mPutSlot at h
  cases hsl : slotted k true with
  | false => exact tableMutateSlot_nokind _ _ _ k w hsl
  | true =>
    rw [hsl, if_pos rfl] at h
    cases ho : mOffset l pos slot with
    | none =>
      rcases slotted_kinds k true hsl with rfl | rfl | rfl | rfl | rfl | rfl | rfl | rfl | rfl | rfl | rfl | rfl | ⟨_, _⟩
      · exact tableMutateSlot_0_dies T B pos slot n l w hT hs hn ho
      · exact tableMutateSlot_1_dies T B pos slot n l w hT hs hn ho
      · exact tableMutateSlot_2_dies T B pos slot n l w hT hs hn ho
      · exact tableMutateSlot_3_dies T B pos slot n l w hT hs hn ho
      · exact tableMutateSlot_4_dies T B pos slot n l w hT hs hn ho
      · exact tableMutateSlot_5_dies T B pos slot n l w hT hs hn ho
      · exact tableMutateSlot_6_dies T B pos slot n l w hT hs hn ho
      · exact tableMutateSlot_7_dies T B pos slot n l w hT hs hn ho
      · exact tableMutateSlot_8_dies T B pos slot n l w hT hs hn ho
      · exact tableMutateSlot_9_dies T B pos slot n l w hT hs hn ho
      · exact tableMutateSlot_10_dies T B pos slot n l w hT hs hn ho
      · exact tableMutateSlot_32_dies T B pos slot n l w hT hs hn ho
      · cases ‹_ = _›
    | some o =>
      rw [ho, Option.bind_some] at h
      by_cases h0 : o = 0
      · rw [if_pos h0] at h; cases h
      · rw [if_neg h0] at h
        have hx : mPut l k (w32 (pos + o)) n = none := by simpa using h
        have h1 := mPut_none hx (by unfold slotted at hsl; simp at hsl; omega)
        rcases slotted_kinds k true hsl with rfl | rfl | rfl | rfl | rfl | rfl | rfl | rfl | rfl | rfl | rfl | rfl | ⟨_, _⟩
        · exact tableMutateSlot_0_out T B pos slot n o l w hT hs hn ho h0 h1
        · exact tableMutateSlot_1_out T B pos slot n o l w hT hs hn ho h0 h1
        · exact tableMutateSlot_2_out T B pos slot n o l w hT hs hn ho h0 h1
        · exact tableMutateSlot_3_out T B pos slot n o l w hT hs hn ho h0 h1
        · exact tableMutateSlot_4_out T B pos slot n o l w hT hs hn ho h0 h1
        · exact tableMutateSlot_5_out T B pos slot n o l w hT hs hn ho h0 h1
        · exact tableMutateSlot_6_out T B pos slot n o l w hT hs hn ho h0 h1
        · exact tableMutateSlot_7_out T B pos slot n o l w hT hs hn ho h0 h1
        · exact tableMutateSlot_8_out T B pos slot n o l w hT hs hn ho h0 h1
        · exact tableMutateSlot_9_out T B pos slot n o l w hT hs hn ho h0 h1
        · exact tableMutateSlot_10_out T B pos slot n o l w hT hs hn ho h0 h1
        · exact tableMutateSlot_32_out T B pos slot n o l w hT hs hn ho h0 h1
        · cases ‹_ = _›

theorem mOffset_small {l : List UInt8} {pos slot o : Nat} (h : mOffset l pos slot = some o) : o < 18446744073709551616 := by have := mOffset_lt h; omega
theorem numVal_le (k : Int) (n : Nat) : numVal k n ≤ max n 1 := by unfold numVal; split <;> (try split) <;> omega
theorem mGet_small {l : List UInt8} {k : Int} {p n : Nat} (h : mGet l k p = some n) : n < 18446744073709551616 := by
  have h1 := mGet_lt h
  have h2 := numSize_le k
  have : 2 ^ (8 * numSize k) ≤ 2 ^ 64 := Nat.pow_le_pow_right (by omega) (by omega)
  omega
theorem numVal_small2 {l : List UInt8} {k : Int} {p n : Nat} (h : mGet l k p = some n) : numVal k n < 18446744073709551616 := by
  have := mGet_small h; have := numVal_le k n; omega
theorem mGetSlot_small {l : List UInt8} {pos slot n v : Nat} {k : Int} (h : mGetSlot l pos k slot n = some v) : v < 18446744073709551616 := by
  unfold mGetSlot at h
  split at h
  · obtain ⟨o, ho, h⟩ := Option.bind_eq_some_iff.1 h
    split at h
    · injection h with h
      subst h
      unfold defVal
      have h2 := numSize_le k
      have : 2 ^ (8 * numSize k) ≤ 2 ^ 64 := Nat.pow_le_pow_right (by omega) (by omega)
      split
      · split <;> omega
      · have := Nat.mod_lt n (show 2 ^ (8 * numSize k) > 0 from Nat.pow_pos (by omega))
        omega
    · split at h
      · injection h with h; subst h; exact mOffset_small ho
      · obtain ⟨x, hx, rfl⟩ := Option.map_eq_some_iff.1 h
        exact numVal_small2 hx
  · cases h
theorem mJump_small {l : List UInt8} {p q : Nat} (h : mJump l p = some q) : q < 18446744073709551616 := by
  obtain ⟨n, _, _, rfl⟩ := mJump_some h; have := w32_lt (p + n); omega

/-- A step over a Table does what mStep says. -/
theorem tableStep_ok (T B pos off num : Nat) (op k : Int) (l m : List UInt8) (a : Ans) (w : World) (hT : Tab w T B l pos) (hTl : T < w.heap.size) (hn : num < 2 ^ 64) (h : mStep l pos op k off num = some (a, m)) :
    Calls Tryz.prog 28 #[.pointer (some ⟨T, 0, none⟩), stepV op k off num] w (Steps w T B pos m (ansV a)) := by
  unfold mStep at h
  by_cases h0 : op = 0
  · subst h0
    rw [if_pos rfl] at h
    obtain ⟨n, hx, h⟩ := Option.map_eq_some_iff.1 h
    injection h with ha hm
    subst ha hm
    exact step0_ok T B pos off num k l l w n (mOffset_small hx) hT hTl fun w2 h2 => steps_quiet h2 (Offset_ok T B pos _ n l w2 h2 (by omega) hx)
  rw [if_neg h0] at h
  by_cases h1 : op = 1
  · subst h1
    rw [if_pos rfl] at h
    obtain ⟨n, hx, h⟩ := Option.map_eq_some_iff.1 h
    injection h with ha hm
    subst ha hm
    exact step1_ok T B pos off num k l l w n (mGetSlot_small hx) hT hTl fun w2 h2 => steps_quiet h2 (tableGetSlot_ok T B pos _ num n k l w2 h2 (by omega) hn hx)
  rw [if_neg h1] at h
  by_cases h2 : op = 2
  · subst h2
    rw [if_pos rfl] at h
    obtain ⟨n, hx, h⟩ := Option.map_eq_some_iff.1 h
    injection h with ha hm
    subst ha hm
    exact step2_ok T B pos off num k l l w _ (numVal_small2 hx) hT hTl fun w2 h2 => steps_same h2 (tableGet_ok T B pos _ n k l w2 h2 hx)
  rw [if_neg h2] at h
  by_cases h3 : op = 3
  · subst h3
    rw [if_pos rfl] at h
    obtain ⟨n, hx, h⟩ := Option.map_eq_some_iff.1 h
    injection h with ha hm
    subst ha hm
    exact step3_ok T B pos off num k l l w n (mJump_small hx) hT hTl fun w2 h2 => steps_same h2 (Indirect_ok T B pos _ n l w2 h2 hx)
  rw [if_neg h3] at h
  by_cases h4 : op = 4 ∨ op = 5
  · rw [if_pos h4] at h
    obtain ⟨t, hx, h⟩ := Option.map_eq_some_iff.1 h
    injection h with ha hm
    subst ha hm
    rcases h4 with rfl | rfl
    · exact step4_ok T B pos off num k l l w t hT hTl fun w2 h2 => steps_same h2 (String_ok T B pos _ t l w2 h2 hx)
    · exact step5_ok T B pos off num k l t w hT hTl hx
  rw [if_neg h4] at h
  by_cases h6 : op = 6
  · subst h6
    rw [if_pos rfl] at h
    obtain ⟨n, hx, h⟩ := Option.map_eq_some_iff.1 h
    injection h with ha hm
    subst ha hm
    exact step6_ok T B pos off num k l l w _ (by have := w32_lt (n + 4); omega) hT hTl fun w2 h2 => steps_same h2 (Vector_ok T B pos _ n l w2 h2 hx)
  rw [if_neg h6] at h
  by_cases h7 : op = 7
  · subst h7
    rw [if_pos rfl] at h
    obtain ⟨n, hx, h⟩ := Option.map_eq_some_iff.1 h
    injection h with ha hm
    subst ha hm
    obtain ⟨q, hq, hx⟩ := Option.bind_eq_some_iff.1 hx
    exact step7_ok T B pos off num k l l w n (mGet_small hx) hT hTl fun w2 h2 => steps_same h2 (VectorLen_ok T B pos _ q n l w2 h2 hq hx)
  rw [if_neg h7] at h
  by_cases h8 : op = 8
  · subst h8
    rw [if_pos rfl] at h
    obtain ⟨n, hx, h⟩ := Option.map_eq_some_iff.1 h
    injection h with ha hm
    subst ha hm
    exact step8_ok T B pos off num n k l w hT hTl hx
  rw [if_neg h8] at h
  by_cases h9 : op = 9
  · subst h9
    rw [if_pos rfl] at h
    obtain ⟨n, hx, h⟩ := Option.map_eq_some_iff.1 h
    injection h with ha hm
    subst ha hm
    exact step9_ok T B pos off num k l _ w true hT hTl fun w2 h2 => tableMutate_ok T B pos _ num k l _ w2 h2 hn hx
  rw [if_neg h9] at h
  by_cases h10 : op = 10
  · subst h10
    rw [if_pos rfl] at h
    obtain ⟨⟨b, x⟩, hx, h⟩ := Option.map_eq_some_iff.1 h
    injection h with ha hm
    subst ha hm
    exact step10_ok T B pos off num k l _ w b hT hTl fun w2 h2 => tableMutateSlot_ok T B pos _ num b k l _ w2 h2 (by omega) hn hx
  rw [if_neg h10] at h
  cases h

/-- It panics where mStep has no answer. -/
theorem tableStep_falls (T B pos off num : Nat) (op k : Int) (l : List UInt8) (w : World) (hT : Tab w T B l pos) (hTl : T < w.heap.size) (hn : num < 2 ^ 64) (h : mStep l pos op k off num = none) :
    Calls Tryz.prog 28 #[.pointer (some ⟨T, 0, none⟩), stepV op k off num] w (Falls w) := by
  unfold mStep at h
  by_cases h0 : op = 0
  · subst h0
    rw [if_pos rfl, Option.map_eq_none_iff] at h
    exact step0_dies T B pos off num k l w hT hTl fun w2 h2 => Offset_dies T B pos _ l w2 h2 (by omega) h
  rw [if_neg h0] at h
  by_cases h1 : op = 1
  · subst h1
    rw [if_pos rfl, Option.map_eq_none_iff] at h
    exact step1_dies T B pos off num k l w hT hTl fun w2 h2 => tableGetSlot_dies T B pos _ num k l w2 h2 (by omega) hn h
  rw [if_neg h1] at h
  by_cases h2 : op = 2
  · subst h2
    rw [if_pos rfl, Option.map_eq_none_iff] at h
    exact step2_dies T B pos off num k l w hT hTl fun w2 h2 => tableGet_dies T B pos _ k l w2 h2 h
  rw [if_neg h2] at h
  by_cases h3 : op = 3
  · subst h3
    rw [if_pos rfl, Option.map_eq_none_iff] at h
    exact step3_dies T B pos off num k l w hT hTl fun w2 h2 => Indirect_dies T B pos _ l w2 h2 h
  rw [if_neg h3] at h
  by_cases h4 : op = 4 ∨ op = 5
  · rw [if_pos h4, Option.map_eq_none_iff] at h
    rcases h4 with rfl | rfl
    · exact step4_dies T B pos off num k l w hT hTl fun w2 h2 => String_dies T B pos _ l w2 h2 h
    · exact step5_dies T B pos off num k l w hT hTl h
  rw [if_neg h4] at h
  by_cases h6 : op = 6
  · subst h6
    rw [if_pos rfl, Option.map_eq_none_iff] at h
    exact step6_dies T B pos off num k l w hT hTl fun w2 h2 => Vector_dies T B pos _ l w2 h2 h
  rw [if_neg h6] at h
  by_cases h7 : op = 7
  · subst h7
    rw [if_pos rfl, Option.map_eq_none_iff] at h
    cases hq : mJump l (w32 (off + pos)) with
    | none => exact step7_dies T B pos off num k l w hT hTl fun w2 h2 => VectorLen_dies T B pos _ l w2 h2 hq
    | some q =>
      rw [hq, Option.bind_some] at h
      exact step7_dies T B pos off num k l w hT hTl fun w2 h2 => VectorLen_out T B pos _ q l w2 h2 hq h
  rw [if_neg h7] at h
  by_cases h8 : op = 8
  · subst h8
    rw [if_pos rfl, Option.map_eq_none_iff] at h
    exact step8_dies T B pos off num k l w hT hTl h
  rw [if_neg h8] at h
  by_cases h9 : op = 9
  · subst h9
    rw [if_pos rfl, Option.map_eq_none_iff] at h
    exact step9_dies T B pos off num k l w hT hTl fun w2 h2 => tableMutate_dies T B pos _ num k l w2 h2 hn h
  rw [if_neg h9] at h
  by_cases h10 : op = 10
  · subst h10
    rw [if_pos rfl, Option.map_eq_none_iff] at h
    exact step10_dies T B pos off num k l w hT hTl fun w2 h2 => tableMutateSlot_dies T B pos _ num k l w2 h2 (by omega) hn h
  exact stepNone T B pos off num op k l w hT hTl (by omega)

end Go.Proofs.YtjfgippolckaeaaGreat
