/- What a call leaves alone: 'Fr S w w'': of the blocks that were there, all but those of S are as they were. Plain words on worlds, without a program. -/
import Derived.WalkKit
import Derived.Deep.Draws
import Derived.Laws.IdiomCopy
import Derived.Laws.CopyRow
namespace Go.Proofs.YtfplgggepoaajaaGreat
open Go.RowKit

structure Fr (S : Nat → Prop) (w w' : World) : Prop where
  os : w'.os = w.os
  tape : w'.tape = w.tape
  output : w'.output = w.output
  size : w.heap.size ≤ w'.heap.size
  block : ∀ k, k < w.heap.size → ¬ S k → w'.heap[k]? = w.heap[k]?

theorem Fr.refl (S : Nat → Prop) (w : World) : Fr S w w := ⟨rfl, rfl, rfl, Nat.le_refl _, fun _ _ _ => rfl⟩

theorem Fr.trans {S : Nat → Prop} {a b c : World} (h : Fr S a b) (k : Fr S b c) : Fr S a c :=
  ⟨k.os.trans h.os, k.tape.trans h.tape, k.output.trans h.output, Nat.le_trans h.size k.size,
    fun i hi hs => (k.block i (Nat.lt_of_lt_of_le hi h.size) hs).trans (h.block i hi hs)⟩

/-- Two steps, where what the second one turns is of the first's or new. -/
theorem Fr.trans2 {S S' : Nat → Prop} {a b c : World} (h : Fr S a b) (k : Fr S' b c) (hs : ∀ i, i < a.heap.size → S' i → S i) : Fr S a c :=
  ⟨k.os.trans h.os, k.tape.trans h.tape, k.output.trans h.output, Nat.le_trans h.size k.size,
    fun i hi hn => (k.block i (Nat.lt_of_lt_of_le hi h.size) (fun x => hn (hs i hi x))).trans (h.block i hi hn)⟩

theorem Fr.mono {S S' : Nat → Prop} {a b : World} (h : Fr S a b) (hs : ∀ i, i < a.heap.size → S i → S' i) : Fr S' a b :=
  ⟨h.os, h.tape, h.output, h.size, fun i hi hn => h.block i hi (fun x => hn (hs i hi x))⟩

theorem Fr.drew {S : Nat → Prop} {a b : World} (h : Fr S a b) : Fr S a b.drew := ⟨h.os, h.tape, h.output, h.size, h.block⟩
theorem Fr.drewN {S : Nat → Prop} {a b : World} (h : Fr S a b) (n : Nat) : Fr S a (b.drewN n) := ⟨h.os, h.tape, h.output, h.size, h.block⟩
theorem Fr.fromDrew {S : Nat → Prop} {a b : World} (h : Fr S a.drew b) : Fr S a b := ⟨h.os, h.tape, h.output, h.size, h.block⟩
theorem Fr.fromDrewN {S : Nat → Prop} {a b : World} {n : Nat} (h : Fr S (a.drewN n) b) : Fr S a b := ⟨h.os, h.tape, h.output, h.size, h.block⟩

theorem Fr.alloc {S : Nat → Prop} {a b : World} (h : Fr S a b) (o : Obj) : Fr S a (b.alloc o) :=
  h.trans ⟨rfl, rfl, rfl, by simp, fun k hk _ => Below.heap_alloc _ _ _ hk⟩

theorem Fr.setCell {S : Nat → Prop} {a b : World} (h : Fr S a b) {p : Addr} (hp : p.block < a.heap.size → S p.block) (u : Value) : Fr S a (b.setCell p u) := by
  refine ⟨h.os, h.tape, h.output, by simpa [World.setCell] using h.size, fun k hk hn => ?_⟩
  rw [Below.heap_setCell _ _ _ _ (by intro e; subst e; exact hn (hp hk))]
  exact h.block k hk hn

theorem Fr.set1 (w : World) (b o : Nat) (v : Value) : Fr (fun x => x = b) w (w.setCell ⟨b, o, none⟩ v) := Fr.setCell (S := fun x => x = b) (Fr.refl _ _) (fun _ => rfl) v

theorem Fr.below {S : Nat → Prop} {B : Nat} {a b : World} (h : Fr S a b) (hB : B ≤ a.heap.size) (hs : ∀ k, k < B → ¬ S k) : Below B a b :=
  ⟨h.os, h.tape, h.output, h.size, fun k hk => h.block k (Nat.lt_of_lt_of_le hk hB) (hs k hk)⟩

theorem Fr.of_below {S : Nat → Prop} {B : Nat} {a b : World} (h : Below B a b) (hs : ∀ k, k < a.heap.size → ¬ S k → k < B) : Fr S a b :=
  ⟨h.os, h.tape, h.output, h.size, fun k hk hn => h.block k (hs k hk hn)⟩

/-- Nothing of what was there turns. -/
abbrev Fr0 (w w' : World) : Prop := Fr (fun _ => False) w w'

theorem Fr.to0 {S : Nat → Prop} {a b : World} (h : Fr S a b) (hs : ∀ k, k < a.heap.size → ¬ S k) : Fr0 a b := h.mono (fun i hi x => hs i hi x)
theorem Fr0.below {a b : World} (h : Fr0 a b) : Below a.heap.size a b := Fr.below h (Nat.le_refl _) (fun _ _ x => x)
theorem Fr0.of_below {a b : World} (h : Below a.heap.size a b) : Fr0 a b := Fr.of_below h (fun _ hk _ => hk)

theorem Fr.cell {S : Nat → Prop} {a b : World} (h : Fr S a b) {p : Addr} (hp : p.block < a.heap.size) (hs : ¬ S p.block) : b.cell? p = a.cell? p :=
  World.cell?_of_block (w := a) (h.block p.block hp hs)
theorem Fr.frozen {S : Nat → Prop} {a b : World} (h : Fr S a b) {p : Addr} (hp : p.block < a.heap.size) (hs : ¬ S p.block) : b.frozen? p = a.frozen? p :=
  World.frozen?_of_block (w := a) (h.block p.block hp hs)
theorem Fr0.cells {a b : World} (h : Fr0 a b) : (∀ k o, k < a.heap.size → b.cell? ⟨k, o, none⟩ = a.cell? ⟨k, o, none⟩) ∧ (∀ k o, k < a.heap.size → b.frozen? ⟨k, o, none⟩ = a.frozen? ⟨k, o, none⟩) :=
  ⟨fun _ _ hk => Fr.cell h hk (fun x => x), fun _ _ hk => Fr.frozen h hk (fun x => x)⟩

/-- A block that is known whole. -/
theorem cell_of {w : World} {b : Nat} {c : Array Value} {t : TypeId} {fr : Nat × Nat} (h : w.heap[b]? = some (.cells c t fr)) (i : Nat) : w.cell? ⟨b, i, none⟩ = c[i]? := by
  simp [World.cell?, h]
theorem frozen_of {w : World} {b : Nat} {c : Array Value} {t : TypeId} (h : w.heap[b]? = some (.cells c t (0, 0))) (i : Nat) : w.frozen? ⟨b, i, none⟩ = false := by
  simp [World.frozen?, h]
theorem lt_of_block {w : World} {b : Nat} {o : Obj} (h : w.heap[b]? = some o) : b < w.heap.size := (Array.getElem?_eq_some_iff.1 h).1
theorem heap_alloc_new (w : World) (o : Obj) : (w.alloc o).heap[w.heap.size]? = some o := by
  show (w.heap.push o)[w.heap.size]? = _
  simp
theorem heap_setCell_same {w : World} {b : Nat} {c : Array Value} {t : TypeId} {fr : Nat × Nat} (h : w.heap[b]? = some (.cells c t fr)) (i : Nat) (v : Value) :
    (w.setCell ⟨b, i, none⟩ v).heap[b]? = some (.cells (c.setIfInBounds i v) t fr) := by
  simp [World.setCell, Array.getElem?_modify, h]
theorem heap_setCell_other (w : World) (a : Addr) (u : Value) (k : Nat) (h : k ≠ a.block) : (w.setCell a u).heap[k]? = w.heap[k]? := Below.heap_setCell w a u k h
theorem heap_alloc_old (w : World) (o : Obj) (k : Nat) (h : k < w.heap.size) : (w.alloc o).heap[k]? = w.heap[k]? := Below.heap_alloc w o k h

theorem heap_alloc_get (w : World) (o : Obj) (k : Nat) : (w.alloc o).heap[k]? = if k = w.heap.size then some o else w.heap[k]? := by
  show (w.heap.push o)[k]? = _
  rw [Array.getElem?_push]
theorem size_alloc (w : World) (o : Obj) : (w.alloc o).heap.size = w.heap.size + 1 := by simp

theorem setCell_setCell (w : World) (a : Addr) (u v : Value) : (w.setCell a u).setCell a v = w.setCell a v := by
  unfold World.setCell
  congr 1
  apply Array.ext
  · simp
  · intro i h1 h2
    simp only [Array.getElem_modify]
    split
    · cases hx : w.heap[i]'(by simpa using h1) <;> simp
      split <;> simp
    · rfl

/-- Some cells of a row are other ones. -/
def splice (c : Array Value) (o : Nat) (vs : List Value) : Array Value := (c.toList.take o ++ vs ++ c.toList.drop (o + vs.length)).toArray
theorem splice_nil (c : Array Value) (o : Nat) : splice c o [] = c := by simp [splice]
theorem splice_size (c : Array Value) (o : Nat) (vs : List Value) (h : o + vs.length ≤ c.size) : (splice c o vs).size = c.size := by
  simp [splice]; omega
theorem splice_cons (c : Array Value) (o : Nat) (v : Value) (vs : List Value) (h : o + (vs.length + 1) ≤ c.size) : splice (c.setIfInBounds o v) (o + 1) vs = splice c o (v :: vs) := by
  have e := list_seg_step c.toList o v vs (by simpa using h)
  simp only [splice, Array.toList_setIfInBounds, List.length_cons]
  exact congrArg List.toArray e
theorem splice_get (c : Array Value) (o : Nat) (vs : List Value) (h : o + vs.length ≤ c.size) (i : Nat) :
    (splice c o vs)[i]? = if i < o then c[i]? else if i < o + vs.length then vs[i - o]? else c[i]? := by
  simp only [splice, List.getElem?_toArray, List.append_assoc]
  have ht : (c.toList.take o).length = o := by simp; omega
  rw [List.getElem?_append, ht]
  by_cases h1 : i < o
  · rw [if_pos h1, if_pos h1, List.getElem?_take, if_pos h1]; simp
  · rw [if_neg h1, if_neg h1, List.getElem?_append]
    by_cases h2 : i < o + vs.length
    · rw [if_pos (by omega), if_pos h2]
    · rw [if_neg (by omega), if_neg h2, List.getElem?_drop, show o + vs.length + (i - o - vs.length) = i from by omega]; simp
theorem heap_setCells_same {b : Nat} {t : TypeId} {fr : Nat × Nat} : ∀ (vs : List Value) (o : Nat) (c : Array Value) (w : World), w.heap[b]? = some (.cells c t fr) → o + vs.length ≤ c.size →
    (w.setCells b o vs).heap[b]? = some (.cells (splice c o vs) t fr)
  | [], o, c, w, h, _ => by rw [splice_nil]; exact h
  | v :: r, o, c, w, h, hs => by
    have ih := heap_setCells_same r (o + 1) (c.setIfInBounds o v) (w.setCell ⟨b, o, none⟩ v) (heap_setCell_same h o v) (by simp at hs ⊢; omega)
    rw [splice_cons _ _ _ _ (by simpa using hs)] at ih
    exact ih
theorem heap_setCells_other {b : Nat} (k : Nat) (hk : k ≠ b) : ∀ (vs : List Value) (o : Nat) (w : World), (w.setCells b o vs).heap[k]? = w.heap[k]?
  | [], _, _ => rfl
  | v :: r, o, w => by
    show ((w.setCell ⟨b, o, none⟩ v).setCells b (o + 1) r).heap[k]? = _
    rw [heap_setCells_other k hk r, heap_setCell_other _ _ _ _ hk]
theorem setCells_size {b : Nat} : ∀ (vs : List Value) (o : Nat) (w : World), (w.setCells b o vs).heap.size = w.heap.size
  | [], _, _ => rfl
  | v :: r, o, w => by
    show ((w.setCell ⟨b, o, none⟩ v).setCells b (o + 1) r).heap.size = _
    rw [setCells_size r]; simp [World.setCell]
theorem setCells_rest {b : Nat} : ∀ (vs : List Value) (o : Nat) (w : World), (w.setCells b o vs).os = w.os ∧ (w.setCells b o vs).tape = w.tape ∧ (w.setCells b o vs).output = w.output
  | [], _, _ => ⟨rfl, rfl, rfl⟩
  | v :: r, o, w => setCells_rest r (o + 1) (w.setCell ⟨b, o, none⟩ v)
theorem Fr.setCells {S : Nat → Prop} {a w : World} (h : Fr S a w) {b : Nat} (hb : b < a.heap.size → S b) (o : Nat) (vs : List Value) : Fr S a (w.setCells b o vs) := by
  obtain ⟨e1, e2, e3⟩ := setCells_rest (b := b) vs o w
  refine ⟨e1.trans h.os, e2.trans h.tape, e3.trans h.output, by rw [setCells_size]; exact h.size, fun k hk hn => ?_⟩
  rw [heap_setCells_other k (by intro e; subst e; exact hn (hb hk))]
  exact h.block k hk hn

end Go.Proofs.YtfplgggepoaajaaGreat
