/- impl.prepend and impl.prependSlot, whatever the kind. -/
import Derived.Test.YtfplgggepoaajaaGreatKinds
namespace Go.Proofs.YtfplgggepoaajaaGreat
open Go.RowKit
set_option linter.unusedVariables false
set_option linter.unusedSimpArgs false

theorem Right.k {k : Int} {n : Nat} (h : Right k n) : k = 0 ∨ k = 1 ∨ k = 2 ∨ k = 3 ∨ k = 4 ∨ k = 5 ∨ k = 6 ∨ k = 7 ∨ k = 8 ∨ k = 9 ∨ k = 10 := by
  have := h.1; have := h.2.1; omega
theorem prepend_b (b : Nat) (F : List Nat) (st : BSt) (k : Int) (num : Nat) (w : World) (h : BRep w b F st) (hr : Right k num) (hu : st.m.bytes.length ≤ 1900000) :
    Calls Tryz.prog 50 #[.pointer (some ⟨b, 0, none⟩), .int .u8 k, .int .u64 num] w (BRes w b F (unitRes (some { st with m := (st.m.prep (numSize k) 0).put (numB k num) }))) := by
  obtain ⟨h0, h1, h2, h3⟩ := hr
  have : k = 0 ∨ k = 1 ∨ k = 2 ∨ k = 3 ∨ k = 4 ∨ k = 5 ∨ k = 6 ∨ k = 7 ∨ k = 8 ∨ k = 9 ∨ k = 10 := by omega
  rcases this with rfl | rfl | rfl | rfl | rfl | rfl | rfl | rfl | rfl | rfl | rfl
  · exact prepend_0 b F st num w h hu h3 (h2 rfl)
  · exact prepend_1 b F st num w h hu h3
  · exact prepend_2 b F st num w h hu h3
  · exact prepend_3 b F st num w h hu h3
  · exact prepend_4 b F st num w h hu h3
  · exact prepend_5 b F st num w h hu h3
  · exact prepend_6 b F st num w h hu h3
  · exact prepend_7 b F st num w h hu h3
  · exact prepend_8 b F st num w h hu h3
  · exact prepend_9 b F st num w h hu h3
  · exact prepend_10 b F st num w h hu h3
theorem prependSlot_b (b : Nat) (F : List Nat) (st : BSt) (k i : Int) (num els : Nat) (w : World) (h : BRep w b F st) (hr : Right k num) (hr2 : Right k els) (hu : st.m.bytes.length ≤ 1900000) :
    Calls Tryz.prog 51 #[.pointer (some ⟨b, 0, none⟩), .int .u8 k, .int .i64 i, .int .u64 num, .int .u64 els] w (BRes w b F (unitRes (st.prepSlot (numSize k) (numB k num) i (sameNum k num els)))) := by
  obtain ⟨h0, h1, h2, h3⟩ := hr
  obtain ⟨_, _, g2, g3⟩ := hr2
  have : k = 0 ∨ k = 1 ∨ k = 2 ∨ k = 3 ∨ k = 4 ∨ k = 5 ∨ k = 6 ∨ k = 7 ∨ k = 8 ∨ k = 9 ∨ k = 10 := by omega
  rcases this with rfl | rfl | rfl | rfl | rfl | rfl | rfl | rfl | rfl | rfl | rfl
  · exact prependSlot_0 b F st i num els w h hu (h2 rfl) (g2 rfl)
  · exact prependSlot_1 b F st i num els w h hu h3 g3
  · exact prependSlot_2 b F st i num els w h hu h3 g3
  · exact prependSlot_3 b F st i num els w h hu h3 g3
  · exact prependSlot_4 b F st i num els w h hu h3 g3
  · exact prependSlot_5 b F st i num els w h hu h3 g3
  · exact prependSlot_6 b F st i num els w h hu h3 g3
  · exact prependSlot_7 b F st i num els w h hu h3 g3
  · exact prependSlot_8 b F st i num els w h hu h3 g3
  · exact prependSlot_9 b F st i num els w h hu h3 g3
  · exact prependSlot_10 b F st i num els w h hu h3 g3
end Go.Proofs.YtfplgggepoaajaaGreat
