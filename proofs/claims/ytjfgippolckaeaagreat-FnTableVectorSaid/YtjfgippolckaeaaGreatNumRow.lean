/- A slice of numbers that came in, as the walks are told of it. -/
import Derived.Test.YtjfgippolckaeaaGreatBase
namespace Go.Proofs.YtjfgippolckaeaaGreat
open Go.RowKit
set_option linter.unusedVariables false

/-- A slice of numbers of one cell each that came in: nil, or a row of 'len' numbers. -/
def NumRow (w : World) (k : IntKind) (ao : Option Addr) (len cap : Nat) (xs : List Nat) : Prop :=
  xs.length = len ∧ (len = 0 ∨ ∃ b o, ao = some ⟨b, o, none⟩ ∧ b < w.heap.size ∧ ∀ (i x : Nat), xs[i]? = some x → w.cell? ⟨b, o + i, none⟩ = some (.int k x))

theorem numRow_of (W : World) (k : IntKind) (x : Addr) (len cap : Nat) (zs : List Int) (B : Nat) (hl : len ≤ cap) (hz : zs.length = cap) (hcell : ∀ i, i < zs.length → W.cell? (x.add i) = some (.int k (zs.getD i 0)))
    (hb : ∀ n ∈ zs, 0 ≤ n ∧ n < (B : Nat)) : ∃ xs : List Nat, NumRow W k (some x) len cap xs ∧ ∀ y ∈ xs, y < B := by
  refine ⟨(zs.take len).map Int.toNat, ⟨by simp; omega, ?_⟩, fun y hy => ?_⟩
  · by_cases h0 : len = 0
    · exact .inl h0
    · right
      have hc0 := hcell 0 (by omega)
      have hs : x.spot = none := World.cell?_spot hc0
      obtain ⟨b, o, sp⟩ := x
      obtain rfl : sp = none := hs
      refine ⟨b, o, rfl, World.block_lt_of_cell? _ _ hc0, fun i y hi => ?_⟩
      rw [List.getElem?_map] at hi
      cases hg : (zs.take len)[i]? with
      | none => rw [hg] at hi; cases hi
      | some q =>
        rw [hg] at hi
        simp only [Option.map_some, Option.some.injEq] at hi
        rw [List.getElem?_take] at hg
        split at hg
        · have hil : i < zs.length := (List.getElem?_eq_some_iff.1 hg).1
          have h1 := hcell i hil
          have h2 : zs.getD i 0 = q := by rw [List.getD_eq_getElem?_getD, hg]; rfl
          rw [h2] at h1
          have hq := hb q (List.mem_of_getElem? hg)
          have h3 : ((y : Nat) : Int) = q := by omega
          rw [h3]
          have e : Addr.add ⟨b, o, none⟩ i = ⟨b, o + i, none⟩ := by unfold Addr.add; split <;> simp_all
          rw [← e]; exact h1
        · cases hg
  · obtain ⟨q, hq, rfl⟩ := List.mem_map.1 hy
    have := hb q (List.mem_of_mem_take hq)
    omega
end Go.Proofs.YtjfgippolckaeaaGreat
