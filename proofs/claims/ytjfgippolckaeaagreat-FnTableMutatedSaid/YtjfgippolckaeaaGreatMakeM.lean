/- A table that is made by the format, in plain words. -/
import Derived.Test.YtjfgippolckaeaaGreatRowOf
import Derived.Test.YtjfgippolckaeaaGreatFnTableText
namespace Go.Proofs.YtjfgippolckaeaaGreat
open Go.RowKit Go.ChangeShapes Go.WideShapes Go.Deep
set_option linter.unusedVariables false
set_option linter.unusedSimpArgs false

structure Fld where
  has : Bool
  k : Int
  num : Nat
  gap : Nat
def fldC (f : Fld) : List Value := [.bool f.has, .int .u8 f.k, .int .u64 f.num, .int .u8 f.gap]
def FldOk (f : Fld) : Prop := (0 ≤ f.k ∧ f.k ≤ 255) ∧ f.num < 2 ^ 64 ∧ f.gap < 256
/-- How many bytes are lacking up to a multiple of s. -/
def padN (m s : Nat) : Nat := (s - m % s) % s
def mkField (st : List UInt8 × List Nat) (f : Fld) : Option (List UInt8 × List Nat) :=
  if f.has then
    if numSize f.k = 0 ∨ 10 < f.k then none
    else
      let b := st.1 ++ List.replicate (f.gap % 8) 238
      let b := b ++ List.replicate (padN b.length (numSize f.k)) 238
      some (b ++ numB f.k f.num, st.2 ++ [b.length])
  else some (st.1, st.2 ++ [0])
def mkFields (l : List Fld) : Option (List UInt8 × List Nat) := l.foldl (fun o f => o.bind (mkField · f)) (some ([0, 0, 0, 0], []))
theorem mkFields_take (l : List Fld) (i : Nat) (h : i < l.length) : mkFields (l.take (i + 1)) = (mkFields (l.take i)).bind (mkField · l[i]) := by
  unfold mkFields
  rw [List.take_succ_eq_append_getElem h, List.foldl_append]
  rfl
theorem mkFields_none (l : List Fld) (i : Nat) (h : i ≤ l.length) (hn : mkFields (l.take i) = none) : mkFields l = none := by
  have e : ∀ (l : List Fld), l.foldl (fun o f => Option.bind o (mkField · f)) none = none := by
    intro l
    induction l with
    | nil => rfl
    | cons x r ih => exact ih
  have : mkFields l = (l.drop i).foldl (fun o f => Option.bind o (mkField · f)) (mkFields (l.take i)) := by
    unfold mkFields
    rw [← List.foldl_append, List.take_append_drop]
  rw [this, hn, e]
def mkBody (b : List UInt8) : List UInt8 := b ++ List.replicate (padN b.length 8) 238
def vt0 (n more blen : Nat) : List UInt8 := numB 35 (4 + 2 * (n + more)) ++ numB 35 blen
def mkVt (n more blen : Nat) (slots : List Nat) : List UInt8 :=
  let v := vt0 n more blen ++ (slots ++ List.replicate more 0).flatMap (numB 35)
  v ++ List.replicate (padN v.length 8) 0
def mkEnd (n more : Nat) (behind : Bool) (body : List UInt8) (slots : List Nat) : List UInt8 × Nat :=
  let vt := mkVt n more body.length slots
  if behind then (numB 34 8 ++ [0, 0, 0, 0] ++ (numB 33 (4294967296 - body.length) ++ body.drop 4) ++ vt, 8)
  else (numB 34 (8 + vt.length) ++ [0, 0, 0, 0] ++ vt ++ (numB 33 vt.length ++ body.drop 4), 8 + vt.length)
def mkTable (fs : List Fld) (more : Nat) (behind : Bool) : Option (List UInt8 × Nat) :=
  (mkFields fs).bind fun st =>
    if 65535 < (mkBody st.1).length ∨ 65535 < 4 + 2 * (fs.length + more) then none
    else some (mkEnd fs.length more behind (mkBody st.1) st.2)
def mkV : Option (List UInt8 × Nat) → Value
  | none => .tuple #[.string ⟨#[]⟩, .int .u32 0, .bool false]
  | some x => .tuple #[.string (strOf x.1), .int .u32 x.2, .bool true]

theorem padN_lt (m s : Nat) (h : 0 < s) : padN m s < s := Nat.mod_lt _ h
theorem padN_mod (m s : Nat) (h : 0 < s) : (m + padN m s) % s = 0 := by
  unfold padN
  have h1 := Nat.mod_lt m h
  by_cases h0 : m % s = 0
  · rw [h0, Nat.sub_zero, Nat.mod_self, Nat.add_zero, h0]
  · rw [Nat.mod_eq_of_lt (by omega : s - m % s < s)]
    have h2 := Nat.mod_add_div m s
    have : m + (s - m % s) = s * (m / s) + s := by omega
    rw [this]
    simp
/-- The least that is lacking. -/
theorem padN_least (m s j : Nat) (h : 0 < s) (hj : (m + j) % s = 0) (hl : j ≤ padN m s) : j = padN m s := by
  have h1 := padN_mod m s h
  have h2 := padN_lt m s h
  by_cases e : j = padN m s
  · exact e
  · exfalso
    have h3 : (m + padN m s) - (m + j) = padN m s - j := by omega
    have h4 : ((m + padN m s) - (m + j)) % s = 0 := by
      have a := Nat.dvd_of_mod_eq_zero h1
      have b := Nat.dvd_of_mod_eq_zero hj
      exact Nat.mod_eq_zero_of_dvd (Nat.dvd_sub a b)
    rw [h3, Nat.mod_eq_of_lt (by omega)] at h4
    omega
theorem mkField_len {st st' : List UInt8 × List Nat} {f : Fld} (h : mkField st f = some st') : st'.1.length ≤ st.1.length + 23 ∧ st'.2.length = st.2.length + 1 ∧ st.1.length ≤ st'.1.length := by
  unfold mkField at h
  split at h
  · split at h
    · cases h
    · rename_i hn
      injection h with h
      subst h
      have hz := numSize_le f.k
      have h0 : 0 < numSize f.k := by omega
      have := padN_lt (st.1 ++ List.replicate (f.gap % 8) 238).length (numSize f.k) h0
      simp [numB_length] at this ⊢
      omega
  · injection h with h
    subst h
    simp
theorem mkFields_len {l : List Fld} : ∀ (i : Nat), i ≤ l.length → ∀ st, mkFields (l.take i) = some st → st.1.length ≤ 4 + 23 * i ∧ st.2.length = i ∧ 4 ≤ st.1.length
  | 0, _, st, h => by
    have : some (([0, 0, 0, 0], []) : List UInt8 × List Nat) = some st := h
    injection this with h
    subst h
    simp
  | i + 1, hi, st, h => by
    rw [mkFields_take l i (by omega)] at h
    obtain ⟨st', h1, h2⟩ := Option.bind_eq_some_iff.1 h
    have a := mkFields_len i (by omega) st' h1
    have b := mkField_len h2
    omega

theorem mkField_slots {st st' : List UInt8 × List Nat} {f : Fld} (h : mkField st f = some st') (hs : ∀ x ∈ st.2, x ≤ st.1.length) : ∀ x ∈ st'.2, x ≤ st'.1.length := by
  have hl := mkField_len h
  unfold mkField at h
  split at h
  · split at h
    · cases h
    · injection h with h
      subst h
      intro x hx
      rcases List.mem_append.1 hx with hx | hx
      · exact Nat.le_trans (hs x hx) hl.2.2
      · rw [List.mem_singleton] at hx
        rw [hx]; simp
  · injection h with h
    subst h
    intro x hx
    rcases List.mem_append.1 hx with hx | hx
    · exact hs x hx
    · rw [List.mem_singleton] at hx
      rw [hx]; exact Nat.zero_le _
theorem mkFields_slots {l : List Fld} : ∀ (i : Nat), i ≤ l.length → ∀ st, mkFields (l.take i) = some st → ∀ x ∈ st.2, x ≤ st.1.length
  | 0, _, st, h => by
    have : some (([0, 0, 0, 0], []) : List UInt8 × List Nat) = some st := h
    injection this with h
    subst h
    simp
  | i + 1, hi, st, h => by
    rw [mkFields_take l i (by omega)] at h
    obtain ⟨st', h1, h2⟩ := Option.bind_eq_some_iff.1 h
    exact mkField_slots h2 (mkFields_slots i (by omega) st' h1)
theorem flat35_length (l : List Nat) : (l.flatMap (numB 35)).length = l.length * 2 := by
  induction l with
  | nil => rfl
  | cons x r ih => rw [List.flatMap_cons, List.length_append, numB_length, ih]; simp [numSize]; omega
theorem vt0_length (n more blen : Nat) : (vt0 n more blen).length = 4 := by simp [vt0, numB_length, numSize]

theorem fldRow_of {H : Type} {enc : TypeId × Value → H} {W : World} {base : Nat} {spare : Nat → Bool} {held : Bool} {fuel len cap : Nat} {ao : Option Addr} {x : DataW H × List MemPlace}
    (h : DataW.trod enc Tryz.prog W base spare held fuel 22 [.slice ao len cap] = some x) : ∃ fs : List Fld, len ≤ cap ∧ RowAt W (.slice ao len cap) len (fs.flatMap fldC) ∧ fs.length = len ∧ ∀ s ∈ fs, FldOk s := by
  rcases open_slice_fields Tryz.underlying22 Tryz.underlying29 (by kernel_rfl) (by kernel_rfl) h with ⟨hcs, _⟩ | ⟨a, l, c, m, D, Pl, hcs, _, hl, _, hmm, _, hi⟩
  · simp at hcs
    obtain ⟨rfl, rfl, rfl⟩ := hcs
    exact ⟨[], Nat.le_refl _, ⟨rfl, none, 0, rfl, .inl rfl⟩, rfl, by simp⟩
  · simp at hcs
    obtain ⟨rfl, rfl, rfl⟩ := hcs
    have hlm : len ≤ m := by rw [hmm]; split <;> omega
    obtain ⟨steps, h1, h2, h3⟩ := row_at (W := W) (a := a) (len := len) (cap := cap) (f := fldC) (ok := FldOk) (fun _ => rfl) (fun i hil => by
      obtain ⟨ys, n, _, _, _, hfd⟩ := hi i (by omega)
      obtain ⟨v0, y0, c0, _, t0⟩ := hfd 0 _ rfl
      obtain ⟨v1, y1, c1, _, t1⟩ := hfd 1 _ rfl
      obtain ⟨v2, y2, c2, _, t2⟩ := hfd 2 _ rfl
      obtain ⟨v3, y3, c3, _, t3⟩ := hfd 3 _ rfl
      obtain ⟨n0, e0, _⟩ := DataW.trod_bool Tryz.underlying4 t0
      obtain ⟨n1, e1, _, w1⟩ := DataW.trod_int Tryz.underlying5 t1
      obtain ⟨n2, e2, _, w2⟩ := DataW.trod_int Tryz.underlying23 t2
      obtain ⟨n3, e3, _, w3⟩ := DataW.trod_int Tryz.underlying5 t3
      simp only [List.cons.injEq, and_true] at e0 e1 e2 e3
      subst e0 e1 e2 e3
      have b1 := bounds_u8 w1
      have b2 := bounds_u64 w2
      have b3 := bounds_u8 w3
      have k2 : ((n2.toNat : Nat) : Int) = n2 := by omega
      have k3 : ((n3.toNat : Nat) : Int) = n3 := by omega
      refine ⟨⟨n0, n1, n2.toNat, n3.toNat⟩, ⟨by dsimp only; omega, by dsimp only; omega, by dsimp only; omega⟩, fun j u hu => ?_⟩
      have hj : j < 4 := (List.getElem?_eq_some_iff.1 hu).1
      have hjj : j = 0 ∨ j = 1 ∨ j = 2 ∨ j = 3 := by omega
      simp only [fldC, k2, k3] at hu
      rcases hjj with rfl | rfl | rfl | rfl
      · simp only [List.getElem?_cons_zero, Option.some.injEq] at hu; rw [← hu]; exact c0
      · simp only [List.getElem?_cons_zero, List.getElem?_cons_succ, Option.some.injEq] at hu; rw [← hu]; exact c1
      · simp only [List.getElem?_cons_zero, List.getElem?_cons_succ, Option.some.injEq] at hu; rw [← hu]; exact c2
      · simp only [List.getElem?_cons_zero, List.getElem?_cons_succ, Option.some.injEq] at hu; rw [← hu]; exact c3)
    exact ⟨steps, hl, h1, h2, h3⟩

/-- The cells of the places so far. -/
def slotCells (l : List Nat) (n : Nat) : List Value := (l ++ List.replicate (n - l.length) 0).map (fun (x : Nat) => Value.int .i64 x)
theorem slotCells_zero (l : List Nat) (n : Nat) (h : l.length < n) : slotCells (l ++ [0]) n = slotCells l n := by
  unfold slotCells
  congr 1
  have e : n - l.length = (n - (l ++ [0]).length) + 1 := by simp; omega
  rw [e, List.replicate_succ, List.append_assoc]
  rfl
theorem slotCells_set (l : List Nat) (n x : Nat) (h : l.length < n) : (slotCells l n).set l.length (.int .i64 x) = slotCells (l ++ [x]) n := by
  unfold slotCells
  have e : n - l.length = (n - (l ++ [x]).length) + 1 := by simp; omega
  rw [e, List.replicate_succ, List.map_append, List.set_append_right _ _ (by simp)]
  simp
theorem slotCells_length (l : List Nat) (n : Nat) (h : l.length ≤ n) : (slotCells l n).length = n := by simp [slotCells]; omega
theorem slotCells_get (l : List Nat) (n i : Nat) (h : l.length = n) (hi : i < n) : (slotCells l n)[i]? = some (.int .i64 (l[i]'(by omega))) := by
  unfold slotCells
  rw [List.getElem?_map, List.getElem?_append_left (by omega), List.getElem?_eq_getElem (by omega)]
  rfl
end Go.Proofs.YtjfgippolckaeaaGreat
