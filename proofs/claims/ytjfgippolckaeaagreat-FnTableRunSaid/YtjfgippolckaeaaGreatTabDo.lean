/- The reference: spec.TableDo, all steps; its run beside the package's. -/
import Derived.Test.YtjfgippolckaeaaGreatTD0
import Derived.Test.YtjfgippolckaeaaGreatTD1
import Derived.Test.YtjfgippolckaeaaGreatTD2
import Derived.Test.YtjfgippolckaeaaGreatTD3
import Derived.Test.YtjfgippolckaeaaGreatTD4
import Derived.Test.YtjfgippolckaeaaGreatTD5
import Derived.Test.YtjfgippolckaeaaGreatTD6
import Derived.Test.YtjfgippolckaeaaGreatTD7
import Derived.Test.YtjfgippolckaeaaGreatTD8
import Derived.Test.YtjfgippolckaeaaGreatTD9
import Derived.Test.YtjfgippolckaeaaGreatTD10
import Derived.Test.YtjfgippolckaeaaGreatTDnone
import Derived.Test.YtjfgippolckaeaaGreatRowOf
namespace Go.Proofs.YtjfgippolckaeaaGreat
open Go.RowKit
set_option linter.unusedVariables false
set_option linter.unusedSimpArgs false

theorem TableDo_calls (l : List UInt8) (pos : Nat) (st : Stp) (w : World) (hl : l.length ≤ 1000000000) (hp : pos < 4294967296) (ho : st.off < 4294967296) (hn : st.num < 2 ^ 64) :
    Calls Tryz.prog 13 #[.string (strOf l), .int .u32 pos, .agg (stepC st).toArray] w fun e w' => e = .returned (tdV (sStep l pos st.op st.k st.off st.num)) ∧ Fr0 w w' := by
  obtain ⟨op, k, off, num⟩ := st
  show Calls Tryz.prog 13 #[.string (strOf l), .int .u32 pos, stepV op k off num] w _
  by_cases h : 0 ≤ op ∧ op ≤ 10
  · have : op = 0 ∨ op = 1 ∨ op = 2 ∨ op = 3 ∨ op = 4 ∨ op = 5 ∨ op = 6 ∨ op = 7 ∨ op = 8 ∨ op = 9 ∨ op = 10 := by omega
    rcases this with rfl | rfl | rfl | rfl | rfl | rfl | rfl | rfl | rfl | rfl | rfl
    · exact TableDo_0 l pos off num k w hl hp ho hn
    · exact TableDo_1 l pos off num k w hl hp ho hn
    · exact TableDo_2 l pos off num k w hl hp ho hn
    · exact TableDo_3 l pos off num k w hl hp ho hn
    · exact TableDo_4 l pos off num k w hl hp ho hn
    · exact TableDo_5 l pos off num k w hl hp ho hn
    · exact TableDo_6 l pos off num k w hl hp ho hn
    · exact TableDo_7 l pos off num k w hl hp ho hn
    · exact TableDo_8 l pos off num k w hl hp ho hn
    · exact TableDo_9 l pos off num k w hl hp ho hn
    · exact TableDo_10 l pos off num k w hl hp ho hn
  · exact TableDo_none l pos off num op k w h

theorem sEnd_how (l : List UInt8) (r : Nat × Nat) (h : r.2 ≤ 2) : (sEnd l r).2.2 ≤ 2 := by
  unfold sEnd; split
  · exact h
  · exact Nat.zero_le _
theorem numAt_how (l : List UInt8) (k : Int) (p : Nat) : (numAt l k p).2 ≤ 2 := by
  obtain ⟨n, e, h, he⟩ := numAt_ends l k p
  rw [h]; show e ≤ 2; omega
theorem sOffset_how (l : List UInt8) (p q : Nat) : (sOffset l p q).2 ≤ 2 := by
  rcases sOffset_cases l p q with ⟨_, n, h⟩ | ⟨n, _, h⟩ <;> rw [h] <;> simp
theorem sJump_how (l : List UInt8) (p : Nat) : (sJump l p).2 ≤ 2 := by
  rcases sJump_cases l p with ⟨_, n, h⟩ | ⟨n, _, h⟩ <;> rw [h] <;> simp
theorem sText_how (l : List UInt8) (p : Nat) : (sText l p).2.2 ≤ 2 := by
  unfold sText
  dsimp only
  split
  · exact sEnd_how _ _ (sJump_how _ _)
  · split
    · exact sEnd_how _ _ (numAt_how _ _ _)
    · split
      · exact sEnd_how _ _ (by decide)
      · exact Nat.zero_le _
theorem sWrite_how (l : List UInt8) (k : Int) (p n : Nat) : (sWrite (sPut l k p n)).2.2 ≤ 2 := by
  rcases sPut_cases l k p n with ⟨_, h⟩ | ⟨m, _, h⟩ <;> rw [h] <;> simp [sWrite]
theorem sStep_how (l : List UInt8) (pos : Nat) (op k : Int) (off num : Nat) : (sStep l pos op k off num).2.2 ≤ 2 := by
  unfold sStep
  dsimp only
  repeat' split
  all_goals first | with_reducible exact sEnd_how _ _ (sOffset_how _ _ _) | with_reducible exact sEnd_how _ _ (numAt_how _ _ _) | with_reducible exact sEnd_how _ _ (sJump_how _ _) | with_reducible exact sText_how _ _ | with_reducible exact sWrite_how _ _ _ _ | exact sEnd_how _ (_, 1) (show 1 ≤ 2 by omega) | exact sEnd_how _ (_, 0) (Nat.zero_le _) | exact Nat.zero_le _

end Go.Proofs.YtjfgippolckaeaaGreat
