/- A Builder in memory: its bytes, where they begin, what it aligned to. -/
import Derived.Test.YtfplgggepoaajaaGreatWrite
import Derived.Test.YtfplgggepoaajaaGreatSliceLaws
import Derived.Test.YtfplgggepoaajaaGreatRegLast
import Derived.Deep.QuietTactic
import Derived.BigQuiet
namespace Go.Proofs.YtfplgggepoaajaaGreat
open Go.RowKit
set_option linter.unusedVariables false
set_option linter.unusedSimpArgs false

theorem sizeU8b : (Tryz.prog.info? 5).map (·.size) = some 1 := by kernel_rfl
/-- What of a Builder has no part in its bytes: the vtable, where the object began, the vtables, nested, finished, the shared strings. -/
structure BRest where
  v2 : Value
  v3 : Value
  v4 : Value
  v6 : Value
  v7 : Value
  v8 : Value
def bCells (Y len cap least room : Nat) (r : BRest) : Array Value :=
  #[.slice (some ⟨Y, 0, none⟩) len cap, .int .i64 least, r.v2, r.v3, r.v4, .int .u32 room, r.v6, r.v7, r.v8]
/-- The Builder at block b, with its bytes in block Y: 'room' bytes are free in front of them. -/
structure BB (w : World) (b Y : Nat) (r : BRest) (room least : Nat) (bytes : List UInt8) (c : Array Value) : Prop where
  hb : w.heap[b]? = some (.cells (bCells Y (room + bytes.length) c.size least room r) 82)
  hy : w.heap[Y]? = some (.cells c 5)
  fit : room + bytes.length ≤ c.size
  eq : (c.toList.take (room + bytes.length)).drop room = cellsOf bytes
  lim : room + bytes.length ≤ 4000000
  ne : b ≠ Y
  cap : c.size ≤ maxLen
  one : ∀ v ∈ c.toList.take (room + bytes.length), v.oneCell' = true
  zero : room + bytes.length = 0 → c.size = 0

theorem BB.drewN {w : World} {b Y : Nat} {r : BRest} {room least : Nat} {bytes : List UInt8} {c : Array Value} (h : BB w b Y r room least bytes c) (n : Nat) : BB (w.drewN n) b Y r room least bytes c := ⟨h.hb, h.hy, h.fit, h.eq, h.lim, h.ne, h.cap, h.one, h.zero⟩
theorem BB.fr {w w' : World} {S : Nat → Prop} {b Y : Nat} {r : BRest} {room least : Nat} {bytes : List UInt8} {c : Array Value} (h : BB w b Y r room least bytes c) (hf : Fr S w w') (hb : ¬ S b) (hY : ¬ S Y) : BB w' b Y r room least bytes c :=
  ⟨(hf.block b (lt_of_block h.hb) hb).trans h.hb, (hf.block Y (lt_of_block h.hy) hY).trans h.hy, h.fit, h.eq, h.lim, h.ne, h.cap, h.one, h.zero⟩

theorem splice_bytes (c : Array Value) (room z : Nat) (bytes xs : List UInt8) (hz : xs.length = z) (hzr : z ≤ room) (fit : room + bytes.length ≤ c.size) (eq : (c.toList.take (room + bytes.length)).drop room = cellsOf bytes) :
    ((splice c (room - z) (cellsOf xs)).toList.take (room + bytes.length)).drop (room - z) = cellsOf (xs ++ bytes) := by
  have hcl : (cellsOf xs).length = z := by rw [cellsOf_length, hz]
  have h1 : (c.toList.take (room - z)).length = room - z := by simp; omega
  unfold splice
  rw [hcl, show room - z + z = room by omega]
  have h2 : (c.toList.take (room - z) ++ cellsOf xs).length = room := by rw [List.length_append, h1, hcl]; omega
  show (List.take (room + bytes.length) (c.toList.take (room - z) ++ cellsOf xs ++ c.toList.drop room)).drop (room - z) = _
  rw [List.take_append, h2, List.take_of_length_le (by rw [h2]; omega), show room + bytes.length - room = bytes.length by omega]
  rw [List.append_assoc, List.drop_append_of_le_length (by omega), List.drop_of_length_le (by omega), List.nil_append]
  have h3 : cellsOf (xs ++ bytes) = cellsOf xs ++ cellsOf bytes := by simp [cellsOf]
  rw [h3, ← eq]
  congr 1
  rw [List.drop_take]
  congr 1
  omega
theorem splice_one (c : Array Value) (o n : Nat) (vs : List Value) (h : ∀ v ∈ c.toList.take n, v.oneCell' = true) (hv : ∀ v ∈ vs, v.oneCell' = true) (hf : o + vs.length ≤ n) : ∀ v ∈ (splice c o vs).toList.take n, v.oneCell' = true := by
  intro v hm
  have hm2 : v ∈ (c.toList.take o ++ vs ++ c.toList.drop (o + vs.length)).take n := hm
  by_cases hl : o ≤ c.size
  · have h1 : (c.toList.take o ++ vs).length = o + vs.length := by rw [List.length_append, List.length_take]; simp; omega
    rw [List.take_append, h1, List.take_of_length_le (by omega)] at hm2
    rcases List.mem_append.1 hm2 with hm2 | hm2
    · rcases List.mem_append.1 hm2 with hm2 | hm2
      · refine h v ?_
        have : c.toList.take o = (c.toList.take n).take o := by rw [List.take_take]; congr 1; omega
        rw [this] at hm2
        exact List.mem_of_mem_take hm2
      · exact hv v hm2
    · refine h v ?_
      have : (c.toList.drop (o + vs.length)).take (n - (o + vs.length)) = (c.toList.take n).drop (o + vs.length) := by rw [List.drop_take]
      rw [this] at hm2
      exact List.mem_of_mem_drop hm2
  · have h1 : c.toList.take o = c.toList := List.take_of_length_le (by simp; omega)
    rw [h1, List.append_assoc, List.take_append] at hm2
    have h3 : c.toList.take n = c.toList := List.take_of_length_le (by simp; omega)
    have h2 : c.toList.drop (o + vs.length) = [] := List.drop_of_length_le (by simp; omega)
    rw [h2, List.append_nil] at hm2
    rcases List.mem_append.1 hm2 with hm2 | hm2
    · exact h v hm2
    · exact hv v (List.mem_of_mem_take hm2)
theorem setCells_heap_other {b : Nat} : ∀ (vs : List Value) (o : Nat) (w : World) (k : Nat), k ≠ b → (w.setCells b o vs).heap[k]? = w.heap[k]?
  | [], _, _, _, _ => rfl
  | v :: r, o, w, k, h => by
    rw [World.setCells, setCells_heap_other r (o + 1) _ k h, heap_setCell_other _ _ _ _ h]
/-- Bytes are put in front. -/
theorem BB.put {w : World} {b Y : Nat} {r : BRest} {room least : Nat} {bytes : List UInt8} {c : Array Value} (h : BB w b Y r room least bytes c) (xs : List UInt8) (hz : xs.length ≤ room) (n : Nat) :
    BB (((w.setCell ⟨b, 5, none⟩ (.int .u32 (room - xs.length : Nat))).drewN n).setCells Y (room - xs.length) (cellsOf xs)) b Y r (room - xs.length) least (xs ++ bytes) (splice c (room - xs.length) (cellsOf xs)) ∧
    Fr (fun k => k = b ∨ k = Y) w (((w.setCell ⟨b, 5, none⟩ (.int .u32 (room - xs.length : Nat))).drewN n).setCells Y (room - xs.length) (cellsOf xs)) := by
  have hfit := h.fit
  have hss : (splice c (room - xs.length) (cellsOf xs)).size = c.size := splice_size _ _ _ (by rw [cellsOf_length]; omega)
  have hl : room - xs.length + (xs ++ bytes).length = room + bytes.length := by rw [List.length_append]; omega
  have hY1 : ((w.setCell ⟨b, 5, none⟩ (.int .u32 (room - xs.length : Nat))).drewN n).heap[Y]? = some (.cells c 5) := by
    show (w.setCell ⟨b, 5, none⟩ _).heap[Y]? = _
    rw [heap_setCell_other _ _ _ _ (show Y ≠ b from fun e => h.ne e.symm)]; exact h.hy
  refine ⟨⟨?_, ?_, by rw [hl, hss]; exact hfit, ?_, by rw [hl]; exact h.lim, h.ne, by rw [hss]; exact h.cap, ?_, by rw [hl, hss]; exact h.zero⟩, ?_⟩
  · rw [setCells_heap_other _ _ _ _ h.ne]
    have := heap_setCell_same h.hb 5 (.int .u32 (room - xs.length : Nat))
    rw [hl, hss]
    exact this
  · exact heap_setCells_same (cellsOf xs) _ c _ hY1 (by rw [cellsOf_length]; omega)
  · rw [hl]; exact splice_bytes c room xs.length bytes xs rfl hz hfit h.eq
  · rw [hl]; exact splice_one c _ _ _ h.one (cellsOf_one _) (by rw [cellsOf_length]; omega)
  · exact Fr.setCells (((Fr.refl _ w).setCell (fun _ => .inl rfl) _).drewN n) (fun _ => .inr rfl) _ _

/-- A call that panics, with what it may have turned. -/
def Falls2 (S : Nat → Prop) (w : World) : Ending → World → Prop := fun e w' => (∃ u v, e = .panicked [{ v := .iface u v, recovered := false }]) ∧ Fr S w w'
end Go.Proofs.YtfplgggepoaajaaGreat
