/- A region that draws its order, whose first operation alone may come first and may do anything, the others only reading. -/
import Derived.Test.YtfplgggepoaajaaGreatRegTail
namespace Go.Proofs.YtfplgggepoaajaaGreat
open Go.RowKit
section
variable {P : Program} {Q : Exit → Act → World → Prop}
theorem wp_region_head {id : Nat} {a : Act} {w : World} (l : List Oper) (hm : P.follows .mixedOrders = true) (hs : Region.noSelect l.toArray = true) (hr : Region.ready .any l.toArray (Array.replicate l.length false) = [0])
    (hB : Region.lexFrom .any l.toArray (l.length - 1) 1 ((Array.replicate l.length false).setIfInBounds 0 true) = true) (hl : 0 < l.length)
    (h : wpOp P l.toArray Q 0 (fun a' w' => wpQuiet P l.toArray (fun w'' => ∃ n, w'' = w'.drewN n) (fun a'' => ∀ w'', (∃ n, w'' = w'.drewN n) → Q .normal a'' w'') (l.drop 1) a') a w.drew) : (Code.region id l.toArray true).wp P Q a w := by
  refine wp_region_any hm ?_
  obtain ⟨n, hn⟩ : ∃ n, l.length = n + 1 := ⟨l.length - 1, by omega⟩
  have hsz : l.toArray.size = n + 1 := by simpa using hn
  rw [hsz]
  rw [hn] at hr hB
  refine ⟨fun h0 => (by rw [h0] at hr; cases hr), fun i hi => ?_⟩
  rw [hr] at hi
  obtain rfl : i = 0 := by simpa using hi
  refine wpOp_mono (fun a' w' h' => ?_) h
  have h1 := wpAnyQ_lex (C := fun w'' => ∃ n, w'' = w'.drewN n) (md := .any) hs (l.drop 1) 1 ((Array.replicate (n + 1) false).setIfInBounds 0 true) a' (fun j => by simp [Nat.add_comm]) (by rw [List.length_drop, hn]; exact hB) h'
  rw [List.length_drop, hn, Nat.add_sub_cancel] at h1
  exact wpAny_of_quiet (Q := fun a'' => ∀ w'', (∃ n, w'' = w'.drewN n) → Q .normal a'' w'') (fun _ w'' hw' h => h w'' hw') n _ a' w' ⟨0, rfl⟩ h1
end
end Go.Proofs.YtfplgggepoaajaaGreat
