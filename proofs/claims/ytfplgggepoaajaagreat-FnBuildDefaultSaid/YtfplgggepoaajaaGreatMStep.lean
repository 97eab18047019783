/- A step over a Builder, plainly: what it answers and leaves; what a Builder's state always is. -/
import Derived.Test.YtfplgggepoaajaaGreatBStep2
import Derived.Test.YtfplgggepoaajaaGreatPlaceD
namespace Go.Proofs.YtfplgggepoaajaaGreat
open Go.RowKit
set_option linter.unusedVariables false
set_option linter.unusedSimpArgs false

/-- A step of a script. -/
structure BS where
  op : Nat
  kind : Nat
  slot : Int
  num : Nat
  els : Nat
  off : Nat
  ref : Int
  size : Int
  more : Int
  by_ : Int
  text : List UInt8
def bsC (s : BS) : List Value := [.int .u8 s.op, .int .u8 s.kind, .int .i64 s.slot, .int .u64 s.num, .int .u64 s.els, .int .u32 s.off, .int .i64 s.ref, .int .i64 s.size, .int .i64 s.more, .int .i64 s.by_, .string (strOf s.text)]
theorem bsC_length (s : BS) : (bsC s).length = 11 := rfl
/-- What a step answers, its text, what it leaves; none: it panics. -/
def mStep (st : BSt) (s : BS) (off : Nat) : Option (Nat × List UInt8 × BSt) :=
  match s.op with
  | 0 => unitN (st.startObj s.slot.toNat)
  | 1 => numN st.endObj
  | 2 => unitN (some { st with m := (st.m.prep (numSize s.kind) 0).put (numB s.kind s.num) })
  | 3 => unitN (st.prepSlot (numSize s.kind) (numB s.kind s.num) s.slot (sameNum s.kind s.num s.els))
  | 4 => unitN (st.refer off)
  | 5 => unitN (st.offSlot s.slot off s.els)
  | 6 => unitN (st.refer off)
  | 7 => unitN (some { st with m := (st.m.prep 2 0).put (leB 2 s.num) })
  | 8 => unitN (st.structSlot s.slot off s.els)
  | 9 => unitN (st.slot s.slot)
  | 10 => numN (st.startVec s.size.toNat s.more.toNat s.by_.toNat)
  | 11 => numN (st.endVec s.slot.toNat)
  | 12 => numN (st.created s.text true)
  | 13 => numN (st.created s.text true)
  | 14 => numN (st.created s.text false)
  | 15 => numN (st.sharedStr s.text)
  | 16 => unitN (some { st with m := st.m.prep s.size.toNat s.more.toNat })
  | 17 => unitN (if numSize s.kind ≤ st.m.room then some { st with m := st.m.put (numB s.kind s.num) } else none)
  | 18 => unitN (if s.slot.toNat ≤ st.m.room then some { st with m := st.m.put (List.replicate s.slot.toNat 0) } else none)
  | 19 => unitN (st.finish off)
  | 20 => unitN (st.finishId off s.text)
  | _ => if st.fin then some (0, st.m.bytes, st) else none
/-- A step that can be asked. -/
structure SOK (s : BS) : Prop where
  op : s.op ≤ 22
  reset : s.op ≠ 21
  text : s.text.length ≤ 1000
  num : s.num < 2 ^ 64
  els : s.els < 2 ^ 64
  more0 : 0 ≤ s.more
  more1 : s.more ≤ 1000
  ref0 : 0 ≤ s.ref
  off : s.off < 2 ^ 32
  o0 : s.op = 0 → 0 ≤ s.slot ∧ s.slot ≤ 60
  o2 : s.op = 2 ∨ s.op = 17 → Right s.kind s.num
  o3 : s.op = 3 → Right s.kind s.num ∧ Right s.kind s.els
  o5 : s.op = 5 ∨ s.op = 8 → s.els < 2 ^ 32
  o10 : s.op = 10 → 0 ≤ s.size ∧ s.size ≤ 100 ∧ 0 ≤ s.by_ ∧ algn s.by_.toNat
  o11 : s.op = 11 ∨ s.op = 18 → 0 ≤ s.slot ∧ s.slot ≤ 1000
  o16 : s.op = 16 → 0 ≤ s.size ∧ algn s.size.toNat
/-- (What is asked of a step besides: nothing.) -/
def SafeS (st : BSt) (s : BS) : Prop := True

/-- Bytes that are put in front. -/
structure Grow (m m' : BM) (k : Nat) : Prop where
  bytes : ∃ xs, m'.bytes = xs ++ m.bytes ∧ xs.length ≤ k
  least : algn m.least → algn m'.least
theorem Grow.refl (m : BM) : Grow m m 0 := ⟨⟨[], rfl, Nat.le_refl _⟩, id⟩
theorem Grow.trans {a b c : BM} {k j : Nat} (h : Grow a b k) (g : Grow b c j) : Grow a c (k + j) := by
  obtain ⟨⟨xs, h1, h2⟩, h3⟩ := h
  obtain ⟨⟨ys, g1, g2⟩, g3⟩ := g
  exact ⟨⟨ys ++ xs, by rw [g1, h1, List.append_assoc], by rw [List.length_append]; omega⟩, fun x => g3 (h3 x)⟩
theorem Grow.mono {a b : BM} {k j : Nat} (h : Grow a b k) (hj : k ≤ j) : Grow a b j := by
  obtain ⟨⟨xs, h1, h2⟩, h3⟩ := h
  exact ⟨⟨xs, h1, by omega⟩, h3⟩
theorem Grow.prep (m : BM) (size add : Nat) (hs : algn size) : Grow m (m.prep size add) 16 := by
  refine ⟨⟨List.replicate (m.pad size add) 0, rfl, ?_⟩, fun h => ?_⟩
  · have := m.pad_lt size add hs
    have := algn_le hs
    simp; omega
  · show algn (max m.least size)
    rcases Nat.le_total m.least size with h1 | h1
    · rw [Nat.max_eq_right h1]; exact hs
    · rw [Nat.max_eq_left h1]; exact h
theorem Grow.put (m : BM) (xs : List UInt8) : Grow m (m.put xs) xs.length := ⟨⟨xs, rfl, Nat.le_refl _⟩, id⟩
theorem Grow.len {m m' : BM} {k : Nat} (h : Grow m m' k) : m.bytes.length ≤ m'.bytes.length ∧ m'.bytes.length ≤ m.bytes.length + k := by
  obtain ⟨⟨xs, h1, h2⟩, _⟩ := h
  rw [h1, List.length_append]; omega
theorem Grow.prepPut (m : BM) (size : Nat) (xs : List UInt8) (hs : algn size) (hx : xs.length ≤ 16) : Grow m ((m.prep size 0).put xs) 40 := ((Grow.prep m size 0 hs).trans (Grow.put _ xs)).mono (by omega)
theorem Grow.text (m : BM) (xs : List UInt8) (z : Bool) : Grow m (m.text xs z) (xs.length + 21) := by
  cases z with
  | true =>
    exact ((((Grow.prep m 4 (xs.length + 1) (by unfold algn; omega)).trans (Grow.put _ [0])).trans (Grow.put _ xs)).trans (Grow.put _ (leB 4 xs.length))).mono (by simp [leB_length]; omega)
  | false =>
    exact (((Grow.prep m 4 xs.length (by unfold algn; omega)).trans (Grow.put _ xs)).trans (Grow.put _ (leB 4 xs.length))).mono (by simp [leB_length]; omega)
theorem Grow.refer {m m' : BM} {off : Nat} (h : m.refer off = some m') : Grow m m' 40 := by
  unfold BM.refer at h
  split at h
  · injection h with h; rw [← h]; exact Grow.prepPut m 4 _ (by unfold algn; omega) (by rw [leB_length]; omega)
  · cases h
theorem Grow.vtPut (o : Nat) : ∀ (l : List Nat) (m : BM), Grow m (vtPut o l m) (4 * l.length)
  | [], m => Grow.refl m
  | f :: l, m => by
    rw [vtPut_cons]
    have h1 := Grow.vtPut o l m
    have h2 : Grow (Proofs.YtfplgggepoaajaaGreat.vtPut o l m) (((Proofs.YtfplgggepoaajaaGreat.vtPut o l m).prep 2 0).put (leI 2 (if f = 0 then 0 else (o : Int) - (f : Int)))) 4 := by
      refine ⟨⟨leI 2 (if f = 0 then 0 else (o : Int) - (f : Int)) ++ List.replicate ((Proofs.YtfplgggepoaajaaGreat.vtPut o l m).pad 2 0) 0, ?_, ?_⟩, (Grow.prep _ 2 0 (by unfold algn; omega)).least⟩
      · show _ ++ (_ ++ _) = _
        rw [List.append_assoc]
      · have := (Proofs.YtfplgggepoaajaaGreat.vtPut o l m).pad_lt 2 0 (by unfold algn; omega)
        simp [leI_length]; omega
    exact (h1.trans h2).mono (by simp; omega)
theorem over_app (m : BM) (ys a rest xs : List UInt8) (o : Nat) (h : m.bytes = ys ++ (a ++ rest)) (ho : o = a.length + rest.length) (hx : xs.length = a.length) : (m.over o xs).bytes = ys ++ (xs ++ rest) := by
  show m.bytes.take (m.bytes.length - o) ++ xs ++ m.bytes.drop (m.bytes.length - o + xs.length) = _
  have hl : m.bytes.length - o = ys.length := by rw [h]; simp only [List.length_append]; omega
  rw [hl, h, List.take_left, hx, List.append_assoc, ← List.append_assoc ys a rest, show ys.length + a.length = (ys ++ a).length by simp, List.drop_left]
/-- The bytes behind PrependSOffsetT. -/
theorem BSt.vt1_split (st : BSt) : ∃ a zs, st.vt1.bytes = a ++ (zs ++ st.m.bytes) ∧ a.length = 4 ∧ zs.length ≤ 3 := by
  refine ⟨leB 4 ((st.m.prep 4 0).bytes.length + 4), List.replicate (st.m.pad 4 0) 0, rfl, leB_length _ _, ?_⟩
  have := st.m.pad_lt 4 0 (by unfold algn; omega)
  simp; omega
theorem Grow.vt1 (st : BSt) : Grow st.m st.vt1 20 := ((Grow.prep st.m 4 0 (by unfold algn; omega)).trans (Grow.put _ _)).mono (by rw [leB_length]; omega)
theorem Grow.over {m0 m1 m : BM} {ys a zs xs : List UInt8} {k : Nat} (h1 : m1.bytes = a ++ (zs ++ m0.bytes)) (h : m.bytes = ys ++ m1.bytes) (hx : xs.length = a.length) (hk : ys.length + a.length + zs.length ≤ k) (hl : algn m0.least → algn m.least) : Grow m0 (m.over m1.bytes.length xs) k := by
  refine ⟨⟨ys ++ (xs ++ zs), ?_, by simp only [List.length_append]; omega⟩, hl⟩
  rw [over_app m ys a (zs ++ m0.bytes) xs _ (by rw [h, h1]) (by rw [h1]; simp) hx]
  simp [List.append_assoc]
theorem Grow.vt4 (st : BSt) (l : List Nat) : Grow st.vt1 (st.vt4 l) (4 * l.length + 80) := by
  unfold BSt.vt4
  exact (((Grow.vtPut _ l st.vt1).trans (Grow.prepPut _ 2 _ (by unfold algn; omega) (by rw [leI_length]; omega))).trans (Grow.prepPut _ 2 _ (by unfold algn; omega) (by rw [leI_length]; omega))).mono (by omega)

/-- What a Builder's state is behind some steps. -/
structure StInv (st : BSt) (i : Nat) : Prop where
  inv : BInv st
  least : algn st.m.least
  many : st.vts.length ≤ i
  sh : Maps.size (st.shared.getD (.map [])) ≤ i
  len : st.m.bytes.length ≤ 5000 * i
theorem StInv.start (n : Nat) : StInv (st0 n) 0 := ⟨⟨fun v hv => by simp [st0] at hv, fun l hl => by simp [st0] at hl, by simp [st0], by simp [st0]⟩, by unfold algn; simp [st0], by simp [st0], by simp [st0, Maps.size], by simp [st0]⟩
/-- The bytes grow, all else stays but what is named. -/
theorem StInv.grow {st st' : BSt} {i k : Nat} (h : StInv st i) (g : Grow st.m st'.m k) (hk : k ≤ 5000) (hv : ∀ l, st'.vtab = some l → l.length ≤ 1000 ∧ ∀ x ∈ l, x ≤ st'.m.bytes.length) (hvs : st'.vts = st.vts) (hoe : st'.oend ≤ st'.m.bytes.length) (hsh : Maps.size (st'.shared.getD (.map [])) ≤ i + 1) : StInv st' (i + 1) := by
  obtain ⟨xs, hx, hxl⟩ := g.bytes
  have hl := g.len
  refine ⟨⟨fun v hvm => ?_, hv, hoe, by rw [hvs]; exact h.inv.many⟩, g.least h.least, by rw [hvs]; have := h.many; omega, hsh, by have := h.len; omega⟩
  rw [hvs] at hvm
  have := h.inv.vts v hvm
  rw [vtLen_app hx v this.1]
  omega
theorem StInv.bytes {st : BSt} {m' : BM} {i k : Nat} (h : StInv st i) (g : Grow st.m m' k) (hk : k ≤ 5000) : StInv { st with m := m' } (i + 1) := by
  have hl := g.len
  refine h.grow (st' := { st with m := m' }) g hk (fun l hl' => ?_) rfl (by have := h.inv.oend; show st.oend ≤ m'.bytes.length; omega) (by have := h.sh; show Maps.size (st.shared.getD _) ≤ _; omega)
  have := h.inv.vtab l hl'
  exact ⟨this.1, fun x hx => by have := this.2 x hx; show x ≤ m'.bytes.length; omega⟩
theorem StInv.up {st : BSt} {i : Nat} (h : StInv st i) : StInv st (i + 1) := h.bytes (m' := st.m) (Grow.refl _) (by omega)
end Go.Proofs.YtfplgggepoaajaaGreat
