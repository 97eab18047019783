/- A Builder where other blocks turn. -/
import Derived.Test.YtfplgggepoaajaaGreatBRep
namespace Go.Proofs.YtfplgggepoaajaaGreat
open Go.RowKit
set_option linter.unusedVariables false
set_option linter.unusedSimpArgs false

theorem BRep.below {w : World} {b : Nat} {F : List Nat} {st : BSt} (h : BRep w b F st) : ∀ k ∈ F, k < w.heap.size := by
  obtain ⟨Y, V, G, M, r, c, rfl, hb, ho⟩ := h
  have hbl := lt_of_block hb.hb
  have hYl := lt_of_block hb.hy
  have hG : G < w.heap.size := by obtain ⟨cv, _, h2, _⟩ := ho.vs; exact lt_of_block h2
  have hV : V < w.heap.size := by
    have hvt := ho.vt
    cases hc : st.vtab with
    | none => rw [hc] at hvt; rw [hvt.2]; exact hbl
    | some l => rw [hc] at hvt; obtain ⟨cv, _, h2, _⟩ := hvt; exact lt_of_block h2
  have hM : M < w.heap.size := by
    have hsh := ho.sh
    cases hc : st.shared with
    | none => rw [hc] at hsh; rw [hsh.2]; exact hbl
    | some D => rw [hc] at hsh; exact hsh.lt
  intro k hk
  simp only [List.mem_cons, List.not_mem_nil, or_false] at hk
  rcases hk with rfl | rfl | rfl | rfl | rfl <;> assumption
theorem BRep.keep {w w' : World} {S : Nat → Prop} {b : Nat} {F : List Nat} {st : BSt} (h : BRep w b F st) (hf : Fr S w w') (hS : ∀ k ∈ F, ¬ S k) : BRep w' b F st := by
  obtain ⟨Y, V, G, M, r, c, rfl, hb, ho⟩ := h
  exact ⟨Y, V, G, M, r, c, rfl, hb.fr hf (hS b (by simp)) (hS Y (by simp)), ho.fr hf (fun _ => hS V (by simp)) (hS G (by simp)) (fun _ => hS M (by simp))⟩
end Go.Proofs.YtfplgggepoaajaaGreat
