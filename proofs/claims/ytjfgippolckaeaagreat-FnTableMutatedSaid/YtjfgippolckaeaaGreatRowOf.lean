/- Slices of structs of four one-cell fields that came in, opened to rows of cells (open_slice_fields after the guide's block). -/
import Derived.Deep.Slices
import Derived.Deep.Fields
import Derived.ChangeSame
import Derived.ChangeArms
import Derived.OpenShut
import Derived.Test.YtjfgippolckaeaaGreatTabOne
namespace Go.Proofs.YtjfgippolckaeaaGreat
open Go.RowKit Go.ChangeShapes Go.WideShapes Go.Deep
set_option linter.unusedVariables false

section
variable {H : Type} {enc : TypeId × Value → H} {P : Program} {w : World} {base : Nat} {spare : Nat → Bool} {held : Bool}
theorem open_slice_fields {t e : TypeId} {fs : Array Field} {fuel : Nat} {cs : List Value} {x : DataW H × List MemPlace} (ht : P.underlying t = some (.slice e)) (he : P.underlying e = some (.struct fs))
    (hone : oneCellFields P fs = true) (hC : P.cellsOf e = fs.size) (h : DataW.trod enc P w base spare held fuel t cs = some x) :
    (cs = [.slice none 0 0] ∧ x = (.nil, [])) ∨
    ∃ (a : Addr) (len cap m : Nat) (D : Nat → DataW H) (Pl : Nat → List MemPlace), cs = [.slice (some a) len cap] ∧ base ≤ a.block ∧ len ≤ cap ∧ cap ≤ maxLen ∧ m = (if spare a.block then cap else len) ∧
      x = (.slice ((List.range len).map D) ((List.range (m - len)).map fun j => D (len + j)), MemPlace.row a (m * fs.size) ++ (List.range m).flatMap Pl) ∧
      ∀ i, i < m → ∃ (ys : List (DataW H × List MemPlace)) (n : Nat), D i = .agg (ys.map (·.1)) ∧ Pl i = ys.flatMap (·.2) ∧ ys.length = fs.size ∧
        ∀ (j : Nat) (f : Field), fs[j]? = some f → ∃ (v : Value) (y : DataW H × List MemPlace), w.cell? (a.add (i * fs.size + j)) = some v ∧ ys[j]? = some y ∧ DataW.trod enc P w base spare held n f.type [v] = some y := by
  rcases open_slice ht h with h0 | ⟨a, len, cap, m, n, D, Pl, hcs, hb, hl, hm, hmm, hx, hi⟩
  · exact .inl h0
  · refine .inr ⟨a, len, cap, m, D, Pl, hcs, hb, hl, hm, hmm, by rw [hC] at hx; exact hx, fun i him => ?_⟩
    obtain ⟨cs', hc, ht'⟩ := hi i him
    rw [hC] at hc
    obtain ⟨ys, n', hn', hy, hlen, hyl, hf⟩ := DataW.trod_struct he ht'
    obtain ⟨_, hcl, hat⟩ := World.cells?_some hc
    simp only [Prod.mk.injEq] at hy
    refine ⟨ys, n', hy.1, hy.2, hyl, fun j f hj => ?_⟩
    obtain ⟨ho, hk⟩ := hone_of hone j f hj
    have hjl : j < fs.size := (Array.getElem?_eq_some_iff.1 hj).1
    have hcell := hat j hjl
    have hv : cs'[j]? = some (cs'[j]'(by omega)) := List.getElem?_eq_getElem (by omega)
    have h1 := hf j f hj
    rw [ho, hk] at h1
    have hone' : (cs'.drop j).take 1 = [cs'[j]'(by omega)] := by
      rw [List.drop_eq_getElem_cons (by omega)]
      rfl
    rw [hone'] at h1
    have hys : ys[j]? = some (ys[j]'(by omega)) := List.getElem?_eq_getElem (by omega)
    refine ⟨_, _, ?_, hys, h1.trans hys⟩
    rw [← Go.Deep.add_add, hcell, hv]
end

theorem rows_of {α : Type} (f : α → List Value) (ok : α → Prop) (hf : ∀ x, (f x).length = 4) (C : Nat → Value → Prop) :
    ∀ len, (∀ i, i < len → ∃ s, ok s ∧ ∀ j u, (f s)[j]? = some u → C (i * 4 + j) u) → ∃ l : List α, l.length = len ∧ (∀ x ∈ l, ok x) ∧ ∀ j u, (l.flatMap f)[j]? = some u → C j u
  | 0, _ => ⟨[], rfl, by simp, by simp⟩
  | n + 1, h => by
    obtain ⟨l, h1, h2, h3⟩ := rows_of f ok hf C n (fun i hi => h i (by omega))
    obtain ⟨s, hs, hc⟩ := h n (by omega)
    refine ⟨l ++ [s], by simp [h1], ?_, fun j u hu => ?_⟩
    · intro x hx
      rcases List.mem_append.1 hx with hx | hx
      · exact h2 x hx
      · rw [List.mem_singleton] at hx; rw [hx]; exact hs
    · rw [List.flatMap_append, List.flatMap_singleton] at hu
      have hl := flat_length f hf l
      by_cases hj : j < (l.flatMap f).length
      · rw [List.getElem?_append_left hj] at hu
        exact h3 j u hu
      · rw [List.getElem?_append_right (by omega)] at hu
        have := hc _ _ hu
        rw [hl, h1] at this
        rwa [show n * 4 + (j - n * 4) = j by rw [hl, h1] at hj; omega] at this
theorem row_at {W : World} {a : Addr} {len cap : Nat} {α : Type} {f : α → List Value} {ok : α → Prop} (hf : ∀ x, (f x).length = 4) (h : ∀ i, i < len → ∃ s, ok s ∧ ∀ j u, (f s)[j]? = some u → W.cell? (a.add (i * 4 + j)) = some u) :
    ∃ l : List α, RowAt W (.slice (some a) len cap) len (l.flatMap f) ∧ l.length = len ∧ ∀ x ∈ l, ok x := by
  obtain ⟨l, h1, h2, h3⟩ := rows_of f ok hf (fun j u => W.cell? (a.add j) = some u) len h
  refine ⟨l, ⟨by rw [flat_length f hf, h1], some a, cap, rfl, ?_⟩, h1, h2⟩
  by_cases h0 : len = 0
  · exact .inl h0
  · obtain ⟨s, _, hs⟩ := h 0 (by omega)
    have hl := hf s
    obtain ⟨u, hu⟩ : ∃ u, (f s)[0]? = some u := ⟨(f s)[0]'(by omega), List.getElem?_eq_getElem (by omega)⟩
    have hc0 := hs 0 u hu
    have e0 : a.add (0 * 4 + 0) = a := by simp [Addr.add]
    rw [e0] at hc0
    have hsp : a.spot = none := World.cell?_spot hc0
    obtain ⟨b, o, sp⟩ := a
    obtain rfl : sp = none := hsp
    refine .inr ⟨b, o, rfl, World.block_lt_of_cell? _ _ hc0, fun j u hu => ?_⟩
    have e : Addr.add ⟨b, o, none⟩ j = ⟨b, o + j, none⟩ := by unfold Addr.add; split <;> simp_all
    rw [← e]
    exact h3 j u hu

/-- What the cells of a step are within. -/
def StepOk (s : Stp) : Prop := (0 ≤ s.op ∧ s.op ≤ 255) ∧ (0 ≤ s.k ∧ s.k ≤ 255) ∧ s.off < 4294967296 ∧ s.num < 2 ^ 64
theorem stepRow_of {H : Type} {enc : TypeId × Value → H} {W : World} {base : Nat} {spare : Nat → Bool} {held : Bool} {fuel len cap : Nat} {ao : Option Addr} {x : DataW H × List MemPlace}
    (h : DataW.trod enc Tryz.prog W base spare held fuel 40 [.slice ao len cap] = some x) : ∃ steps : List Stp, len ≤ cap ∧ RowAt W (.slice ao len cap) len (steps.flatMap stepC) ∧ steps.length = len ∧ ∀ s ∈ steps, StepOk s := by
  rcases open_slice_fields Tryz.underlying40 Tryz.underlying35 (by kernel_rfl) (by kernel_rfl) h with ⟨hcs, _⟩ | ⟨a, l, c, m, D, Pl, hcs, _, hl, _, hmm, _, hi⟩
  · simp at hcs
    obtain ⟨rfl, rfl, rfl⟩ := hcs
    exact ⟨[], Nat.le_refl _, ⟨rfl, none, 0, rfl, .inl rfl⟩, rfl, by simp⟩
  · simp at hcs
    obtain ⟨rfl, rfl, rfl⟩ := hcs
    have hlm : len ≤ m := by rw [hmm]; split <;> omega
    obtain ⟨steps, h1, h2, h3⟩ := row_at (W := W) (a := a) (len := len) (cap := cap) (f := stepC) (ok := StepOk) (fun _ => rfl) (fun i hil => by
      obtain ⟨ys, n, _, _, _, hfd⟩ := hi i (by omega)
      obtain ⟨v0, y0, c0, _, t0⟩ := hfd 0 _ rfl
      obtain ⟨v1, y1, c1, _, t1⟩ := hfd 1 _ rfl
      obtain ⟨v2, y2, c2, _, t2⟩ := hfd 2 _ rfl
      obtain ⟨v3, y3, c3, _, t3⟩ := hfd 3 _ rfl
      obtain ⟨n0, e0, _, w0⟩ := DataW.trod_int Tryz.underlying5 t0
      obtain ⟨n1, e1, _, w1⟩ := DataW.trod_int Tryz.underlying5 t1
      obtain ⟨n2, e2, _, w2⟩ := DataW.trod_int Tryz.underlying24 t2
      obtain ⟨n3, e3, _, w3⟩ := DataW.trod_int Tryz.underlying23 t3
      simp only [List.cons.injEq, and_true] at e0 e1 e2 e3
      subst e0 e1 e2 e3
      have b0 := bounds_u8 w0
      have b1 := bounds_u8 w1
      have b2 := bounds_u32 w2
      have b3 := bounds_u64 w3
      have k2 : ((n2.toNat : Nat) : Int) = n2 := by omega
      have k3 : ((n3.toNat : Nat) : Int) = n3 := by omega
      refine ⟨⟨n0, n1, n2.toNat, n3.toNat⟩, ⟨by dsimp only; omega, by dsimp only; omega, by dsimp only; omega, by dsimp only; omega⟩, fun j u hu => ?_⟩
      have hj : j < 4 := (List.getElem?_eq_some_iff.1 hu).1
      have hjj : j = 0 ∨ j = 1 ∨ j = 2 ∨ j = 3 := by omega
      simp only [stepC, k2, k3] at hu
      rcases hjj with rfl | rfl | rfl | rfl
      · simp only [List.getElem?_cons_zero, Option.some.injEq] at hu; rw [← hu]; exact c0
      · simp only [List.getElem?_cons_zero, List.getElem?_cons_succ, Option.some.injEq] at hu; rw [← hu]; exact c1
      · simp only [List.getElem?_cons_zero, List.getElem?_cons_succ, Option.some.injEq] at hu; rw [← hu]; exact c2
      · simp only [List.getElem?_cons_zero, List.getElem?_cons_succ, Option.some.injEq] at hu; rw [← hu]; exact c3)
    exact ⟨steps, hl, h1, h2, h3⟩
end Go.Proofs.YtjfgippolckaeaaGreat
