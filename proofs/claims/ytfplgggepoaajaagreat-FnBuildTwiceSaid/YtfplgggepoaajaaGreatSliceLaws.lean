/- Laws of slicing a slice of one-cell elements: where the cut begins (at the capacity's end the address stays), and Go's panic out of range. Over any program. -/
import Derived.Test.YtfplgggepoaajaaGreatLaws
import Derived.Laws.Slices
namespace Go.Proofs.YtfplgggepoaajaaGreat
open Go.RowKit
set_option linter.unusedVariables false

/-- Where a cut begins: the address of a cut that begins at the capacity's end is the old one. -/
def sOff (o lo cap : Nat) : Nat := if cap = lo then o else o + lo
theorem sOff_lt {o lo cap : Nat} (h : lo < cap) : sOff o lo cap = o + lo := by unfold sOff; rw [if_neg (by omega)]
theorem sOff_zero (o cap : Nat) : sOff o 0 cap = o := by unfold sOff; split <;> rfl

theorem sOff_add (b o lo cap : Nat) : (if cap = lo then some (⟨b, o, none⟩ : Addr) else (some (⟨b, o, none⟩ : Addr)).map (·.add (lo * 1))) = some ⟨b, sOff o lo cap, none⟩ := by
  unfold sOff
  split
  · rfl
  · simp only [Option.map_some, Nat.mul_one]
    unfold Addr.add
    split
    · rename_i h; subst h; rfl
    · rfl

section
variable {P : Program} {t elem : TypeId} (hu : P.underlying t = some (.slice elem)) (hs : (P.info? elem).map (·.size) = some 1)
include hu hs

theorem run_slice_from (b o len cap : Nat) (k : IntKind) (lo : Int) (n : Nat) (hn : lo = n) (h : n ≤ len) (w : World) :
    (Instr.slice t (.slice (some ⟨b, o, none⟩) len cap) (some (.int k lo)) none none).run P w = .ok (.slice (some ⟨b, sOff o n cap, none⟩) (len - n) (cap - n)) w := by
  subst hn
  cases hq : P.info? elem with
  | none => simp [hq] at hs
  | some i =>
    have hi : i.size = 1 := by simpa [hq] using hs
    have e := sOff_add b o n cap
    simp [Instr.slice, run_underlying hu, Instr.sliceBounds, Instr.sliceBound, asIntOf, sizeOf, typeInfo, hq, hi, h]
    simpa using e

theorem run_slice_to (b o len cap : Nat) (k : IntKind) (hi : Int) (m : Nat) (hm : hi = m) (h : m ≤ cap) (w : World) :
    (Instr.slice t (.slice (some ⟨b, o, none⟩) len cap) none (some (.int k hi)) none).run P w = .ok (.slice (some ⟨b, o, none⟩) m cap) w := by
  subst hm
  cases hq : P.info? elem with
  | none => simp [hq] at hs
  | some i =>
    simp [Instr.slice, run_underlying hu, Instr.sliceBounds, Instr.sliceBound, asIntOf, sizeOf, typeInfo, hq, h, Addr.add]

theorem run_slice_cut (b o len cap : Nat) (k k' : IntKind) (lo hi : Int) (n m : Nat) (hn : lo = n) (hm : hi = m) (h1 : n ≤ m) (h2 : m ≤ cap) (w : World) :
    (Instr.slice t (.slice (some ⟨b, o, none⟩) len cap) (some (.int k lo)) (some (.int k' hi)) none).run P w = .ok (.slice (some ⟨b, sOff o n cap, none⟩) (m - n) (cap - n)) w := by
  subst hn hm
  cases hq : P.info? elem with
  | none => simp [hq] at hs
  | some i =>
    have hi : i.size = 1 := by simpa [hq] using hs
    have e := sOff_add b o n cap
    simp [Instr.slice, run_underlying hu, Instr.sliceBounds, Instr.sliceBound, asIntOf, sizeOf, typeInfo, hq, hi, h1, h2]
    simpa using e

omit hs in
theorem run_slice_from_out (a : Option Addr) (len cap : Nat) (k : IntKind) (lo : Int) (h : lo < 0 ∨ (len : Int) < lo) (w : World) :
    ∃ u v n, (Instr.slice t (.slice a len cap) (some (.int k lo)) none none).run P w = .halt (.panic (.iface u v)) (w.drewN n) := by
  have e : (Instr.slice t (.slice a len cap) (some (.int k lo)) none none).run P w = ((boundsPanic k lo len .sliceB : Sem Nat).run P w).andThen fun _ _ => .ok undef w := by
    obtain ⟨u, v, n, hb⟩ := run_bounds (P := P) w (α := Nat) k lo len .sliceB
    simp [Instr.slice, run_underlying hu, Instr.sliceBounds, Instr.sliceBound, asIntOf, show ¬ (0 ≤ lo ∧ lo ≤ (len : Int)) from by omega, hb]
  obtain ⟨u, v, n, hb⟩ := run_bounds (P := P) w (α := Nat) k lo len .sliceB
  exact ⟨u, v, n, by rw [e, hb]; rfl⟩

omit hs in
theorem run_slice_cut_out (a : Option Addr) (len cap : Nat) (k k' : IntKind) (lo hi : Int) (h : hi < 0 ∨ (cap : Int) < hi ∨ lo < 0 ∨ hi < lo) (w : World) :
    ∃ u v n, (Instr.slice t (.slice a len cap) (some (.int k lo)) (some (.int k' hi)) none).run P w = .halt (.panic (.iface u v)) (w.drewN n) := by
  by_cases h1 : hi < 0 ∨ (cap : Int) < hi
  · obtain ⟨u, v, n, hb⟩ := run_bounds (P := P) w (α := Nat) k' hi cap .sliceAcap
    refine ⟨u, v, n, ?_⟩
    simp [Instr.slice, run_underlying hu, Instr.sliceBounds, Instr.sliceBound, asIntOf, show ¬ (0 ≤ hi ∧ hi ≤ (cap : Int)) from by omega, hb]
  · obtain ⟨m, rfl⟩ : ∃ m : Nat, hi = m := ⟨hi.toNat, by omega⟩
    obtain ⟨u, v, n, hb⟩ := run_bounds (P := P) w (α := Nat) k lo m .sliceB
    refine ⟨u, v, n, ?_⟩
    simp [Instr.slice, run_underlying hu, Instr.sliceBounds, Instr.sliceBound, asIntOf, show m ≤ cap from by omega, show ¬ (0 ≤ lo ∧ lo ≤ (m : Int)) from by omega, hb]
end

theorem Mem.cut {w : World} {b o : Nat} {l : List UInt8} (h : Mem w b o l) {n cap : Nat} (hc : l.length ≤ cap) : Mem w b (sOff o n cap) (l.drop n) := by
  unfold sOff
  split
  · rename_i e
    intro i x hx
    rw [List.drop_of_length_le (by omega)] at hx
    simp at hx
  · exact h.drop n
theorem Mem.take {w : World} {b o : Nat} {l : List UInt8} (h : Mem w b o l) (m : Nat) : Mem w b o (l.take m) := fun i x hx => by
  rw [List.getElem?_take] at hx
  split at hx
  · exact h i x hx
  · simp at hx

end Go.Proofs.YtfplgggepoaajaaGreat
