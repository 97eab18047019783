/- A table that is made by the format is read as it was made: in plain words. -/
import Derived.Test.YtjfgippolckaeaaGreatMakeM
namespace Go.Proofs.YtjfgippolckaeaaGreat
open Go.RowKit
set_option linter.unusedVariables false
set_option linter.unusedSimpArgs false

theorem get_part (P X S : List UInt8) (s z : Nat) (h : s + z ≤ X.length) : ((P ++ X ++ S).drop (P.length + s)).take z = (X.drop s).take z := by
  rw [List.append_assoc, ← List.drop_drop, List.drop_left, List.drop_append_of_le_length (by omega), List.take_append_of_le_length (by rw [List.length_drop]; omega)]
theorem mGet_of (l : List UInt8) (k : Int) (p : Nat) (x : List UInt8) (hk : numSize k ≠ 0) (hl : p + numSize k ≤ l.length) (hx : (l.drop p).take (numSize k) = x) : mGet l k p = some (le x) := by
  unfold mGet
  rw [if_neg (by omega), hx]
theorem le_numB (k : Int) (x : Nat) (h0 : k ≠ 0) (h : x < 2 ^ (8 * numSize k)) : le (numB k x) = x := by
  unfold numB
  rw [le_leB, if_neg (by simp [h0]), Nat.mod_eq_of_lt h]
theorem flat35_drop : ∀ (xs : List Nat) (i : Nat) (hi : i < xs.length), ((xs.flatMap (numB 35)).drop (i * 2)).take 2 = numB 35 xs[i]
  | x :: r, 0, _ => by
    have e : (numB 35 x).length = 2 := by rw [numB_length]; rfl
    rw [Nat.zero_mul, List.drop_zero, List.flatMap_cons, List.take_append_of_le_length (by omega), List.take_of_length_le (by omega)]
    rfl
  | x :: r, i + 1, hi => by
    have e : (numB 35 x).length = 2 := by rw [numB_length]; rfl
    have e1 : (i + 1) * 2 = 2 + i * 2 := by omega
    have e2 : (numB 35 x ++ r.flatMap (numB 35)).drop 2 = r.flatMap (numB 35) := by
      rw [List.drop_append_of_le_length (by omega), List.drop_of_length_le (by omega), List.nil_append]
    rw [List.flatMap_cons, e1, ← List.drop_drop, e2]
    exact flat35_drop r i (by simpa using hi)

/-- Where the fields stand in a body. -/
structure Body (fs : List Fld) (b : List UInt8) (sl : List Nat) : Prop where
  len : sl.length = fs.length
  four : 4 ≤ b.length
  at_ : ∀ (i : Nat) (hi : i < fs.length), fs[i].has = true → (numSize fs[i].k ≠ 0 ∧ fs[i].k ≤ 10) ∧ 4 ≤ sl.getD i 0 ∧ sl.getD i 0 + numSize fs[i].k ≤ b.length ∧ (b.drop (sl.getD i 0)).take (numSize fs[i].k) = numB fs[i].k fs[i].num
  no : ∀ (i : Nat) (hi : i < fs.length), fs[i].has = false → sl.getD i 0 = 0
  apart : ∀ (i j : Nat) (hi : i < fs.length) (hj : j < fs.length), i < j → fs[i].has = true → fs[j].has = true → sl.getD i 0 + numSize fs[i].k ≤ sl.getD j 0

theorem Body.grow {fs : List Fld} {b x : List UInt8} {sl : List Nat} (h : Body fs b sl) : Body fs (b ++ x) sl := by
  refine ⟨h.len, by rw [List.length_append]; have := h.four; omega, fun i hi hh => ?_, h.no, h.apart⟩
  obtain ⟨h1, h2, h3, h4⟩ := h.at_ i hi hh
  refine ⟨h1, h2, by rw [List.length_append]; omega, ?_⟩
  rw [List.drop_append_of_le_length (by omega), List.take_append_of_le_length (by rw [List.length_drop]; omega)]
  exact h4
theorem body_nil : Body [] [0, 0, 0, 0] [] := ⟨rfl, by decide, fun i hi => absurd hi (by simp), fun i hi => absurd hi (by simp), fun i j hi => absurd hi (by simp)⟩
theorem getD_snoc_lt (sl : List Nat) (x i : Nat) (h : i < sl.length) : (sl ++ [x]).getD i 0 = sl.getD i 0 := by
  rw [List.getD_eq_getElem?_getD, List.getD_eq_getElem?_getD, List.getElem?_append_left h]
theorem getD_snoc_last (sl : List Nat) (x : Nat) : (sl ++ [x]).getD sl.length 0 = x := by
  rw [List.getD_eq_getElem?_getD, List.getElem?_append_right (Nat.le_refl _)]; simp
theorem Body.step {fs : List Fld} {f : Fld} {b : List UInt8} {sl : List Nat} {st : List UInt8 × List Nat} (h : Body fs b sl) (hf : mkField (b, sl) f = some st) : Body (fs ++ [f]) st.1 st.2 := by
  unfold mkField at hf
  split at hf
  · rename_i hhas
    split at hf
    · cases hf
    · rename_i hbad
      injection hf with hf
      subst hf
      generalize hX : List.replicate (f.gap % 8) (238 : UInt8) = X
      generalize hY : List.replicate (padN (b ++ X).length (numSize f.k)) (238 : UInt8) = Y
      dsimp only
      have hg : Body fs ((b ++ X ++ Y) ++ numB f.k f.num) sl := by
        rw [List.append_assoc, List.append_assoc]; exact h.grow
      have hbl : b.length ≤ (b ++ X ++ Y).length := by rw [List.length_append, List.length_append]; omega
      generalize b ++ X ++ Y = B at *
      have hz : numSize f.k ≠ 0 := fun e => hbad (.inl e)
      refine ⟨by simp [h.len], hg.four, fun i hi hh => ?_, fun i hi hh => ?_, fun i j hi hj hij hh1 hh2 => ?_⟩
      · by_cases e : i < fs.length
        · rw [getD_snoc_lt _ _ _ (by rw [h.len]; exact e)]
          rw [List.getElem_append_left e] at hh ⊢
          exact hg.at_ i e hh
        · have e2 : i = fs.length := by simp at hi; omega
          subst e2
          have e3 : (fs ++ [f])[fs.length]'hi = f := by rw [List.getElem_append_right (Nat.le_refl _)]; simp
          rw [e3, ← h.len, getD_snoc_last]
          have hB4 : 4 ≤ B.length := Nat.le_trans h.four hbl
          refine ⟨⟨hz, by omega⟩, hB4, by rw [List.length_append, numB_length]; exact Nat.le_refl _, ?_⟩
          rw [List.drop_left, List.take_of_length_le (by rw [numB_length]; exact Nat.le_refl _)]
      · by_cases e : i < fs.length
        · rw [getD_snoc_lt _ _ _ (by rw [h.len]; exact e)]
          rw [List.getElem_append_left e] at hh
          exact h.no i e hh
        · have e2 : i = fs.length := by simp at hi; omega
          subst e2
          have e3 : (fs ++ [f])[fs.length]'hi = f := by rw [List.getElem_append_right (Nat.le_refl _)]; simp
          rw [e3, hhas] at hh; cases hh
      · have hi' : i < fs.length := by simp at hi hj; omega
        rw [getD_snoc_lt _ _ i (by rw [h.len]; exact hi')]
        rw [List.getElem_append_left hi'] at hh1 ⊢
        by_cases e : j < fs.length
        · rw [getD_snoc_lt _ _ _ (by rw [h.len]; exact e)]
          rw [List.getElem_append_left e] at hh2
          exact h.apart i j hi' e hij hh1 hh2
        · have e2 : j = sl.length := by rw [h.len]; simp at hj; omega
          subst e2
          rw [getD_snoc_last]
          have := (h.at_ i hi' hh1).2.2.1
          omega
  · rename_i hhas
    injection hf with hf
    subst hf
    have hhas : f.has = false := by simpa using hhas
    refine ⟨by simp [h.len], h.four, fun i hi hh => ?_, fun i hi hh => ?_, fun i j hi hj hij hh1 hh2 => ?_⟩
    · by_cases e : i < fs.length
      · dsimp only
        rw [getD_snoc_lt _ _ _ (by rw [h.len]; exact e)]
        rw [List.getElem_append_left e] at hh ⊢
        exact h.at_ i e hh
      · have e2 : i = fs.length := by simp at hi; omega
        subst e2
        have e3 : (fs ++ [f])[fs.length]'hi = f := by rw [List.getElem_append_right (Nat.le_refl _)]; simp
        rw [e3, hhas] at hh; cases hh
    · dsimp only
      by_cases e : i < fs.length
      · rw [getD_snoc_lt _ _ _ (by rw [h.len]; exact e)]
        rw [List.getElem_append_left e] at hh
        exact h.no i e hh
      · have e2 : i = sl.length := by rw [h.len]; simp at hi; omega
        subst e2
        exact getD_snoc_last _ _
    · dsimp only
      have hj' : j < fs.length := by
        by_cases e : j < fs.length
        · exact e
        · have e2 : j = fs.length := by simp at hj; omega
          subst e2
          have e3 : (fs ++ [f])[fs.length]'hj = f := by rw [List.getElem_append_right (Nat.le_refl _)]; simp
          rw [e3, hhas] at hh2; cases hh2
      have hi' : i < fs.length := by omega
      rw [getD_snoc_lt _ _ i (by rw [h.len]; exact hi'), getD_snoc_lt _ _ j (by rw [h.len]; exact hj')]
      rw [List.getElem_append_left hi'] at hh1 ⊢
      rw [List.getElem_append_left hj'] at hh2
      exact h.apart i j hi' hj' hij hh1 hh2
theorem body_of (l : List Fld) : ∀ (i : Nat), i ≤ l.length → ∀ st, mkFields (l.take i) = some st → Body (l.take i) st.1 st.2
  | 0, _, st, h => by
    have : some (([0, 0, 0, 0], []) : List UInt8 × List Nat) = some st := h
    injection this with h
    subst h
    rw [List.take_zero]; exact body_nil
  | i + 1, hi, st, h => by
    rw [mkFields_take l i (by omega)] at h
    obtain ⟨st', h1, h2⟩ := Option.bind_eq_some_iff.1 h
    rw [List.take_succ_eq_append_getElem (by omega)]
    exact (body_of l i (by omega) st' h1).step h2

/-- A table in bytes: where its vtable stands, how many slots it has, what they say; the bytes of its body. -/
structure Lay (l : List UInt8) (pos vt N : Nat) (all : List Nat) (B : List UInt8) : Prop where
  back : ∃ back, mGet l 33 pos = some back ∧ mVt pos back = vt
  len : all.length = N
  size : mGet l 35 vt = some (4 + 2 * N)
  fits : 4 + 2 * N ≤ 65535
  slots : ∀ i, i < N → mGet l 35 (vt + 4 + 2 * i) = some (all.getD i 0)
  low : vt + 4 + 2 * N ≤ 1000000
  plow : pos + B.length ≤ 1000000
  body : ∀ s z, 4 ≤ s → s + z ≤ B.length → pos + s + z ≤ l.length ∧ (l.drop (pos + s)).take z = (B.drop s).take z
  apart : vt + 4 + 2 * N ≤ pos ∨ pos + B.length ≤ vt
  root : mGet l 34 0 = some pos
  eight : 8 ≤ pos ∧ 8 ≤ vt
  llen : l.length ≤ 1000000

theorem Lay.offset {l : List UInt8} {pos vt N : Nat} {all : List Nat} {B : List UInt8} (h : Lay l pos vt N all B) (i : Nat) : mOffset l pos (4 + 2 * i) = some (all.getD i 0) := by
  obtain ⟨back, h1, h2⟩ := h.back
  have hlow := h.low
  unfold mOffset
  rw [h1, Option.bind_some, h2, h.size, Option.bind_some]
  by_cases hi : i < N
  · rw [if_pos (by omega)]
    have e : w32 (vt + (4 + 2 * i)) = vt + 4 + 2 * i := by unfold w32; omega
    rw [e]
    exact h.slots i hi
  · rw [if_neg (by omega)]
    rw [List.getD_eq_getElem?_getD, List.getElem?_eq_none (by rw [h.len]; omega)]; rfl

theorem drop_head (a b : List UInt8) (n : Nat) (h : a.length = n) : (a ++ b).drop n = b := by rw [← h, List.drop_left]
theorem numB35_len (x : Nat) : (numB 35 x).length = 2 := by rw [numB_length]; rfl
theorem numB34_len (x : Nat) : (numB 34 x).length = 4 := by rw [numB_length]; rfl
theorem numB33_len (x : Nat) : (numB 33 x).length = 4 := by rw [numB_length]; rfl
structure VtOk (T : List UInt8) (N : Nat) (all : List Nat) : Prop where
  lo : 4 + 2 * N ≤ T.length
  hi : T.length ≤ 4 + 2 * N + 7
  size : T.take 2 = numB 35 (4 + 2 * N)
  slot : ∀ i, i < N → (T.drop (4 + 2 * i)).take 2 = numB 35 (all.getD i 0)
theorem vt_ok (n more blen : Nat) (sl : List Nat) (h : sl.length = n) : VtOk (mkVt n more blen sl) (n + more) (sl ++ List.replicate more 0) := by
  unfold mkVt
  generalize hA : sl ++ List.replicate more 0 = all
  have hal : all.length = n + more := by rw [← hA]; simp; omega
  dsimp only
  have hvl : (vt0 n more blen ++ all.flatMap (numB 35)).length = 4 + 2 * (n + more) := by rw [List.length_append, vt0_length, flat35_length, hal]; omega
  have hp := padN_lt (vt0 n more blen ++ all.flatMap (numB 35)).length 8 (by omega)
  obtain ⟨Z, hZ⟩ : ∃ Z, Z = List.replicate (padN (vt0 n more blen ++ all.flatMap (numB 35)).length 8) (0 : UInt8) := ⟨_, rfl⟩
  have hZl : Z.length < 8 := by rw [hZ, List.length_replicate]; exact hp
  rw [← hZ]
  refine ⟨by rw [List.length_append, hvl]; omega, ?_, ?_, fun i hi => ?_⟩
  · rw [List.length_append, hvl]; omega
  · unfold vt0
    simp only [List.append_assoc]
    rw [List.take_append_of_le_length (by rw [numB35_len]; exact Nat.le_refl _), List.take_of_length_le (by rw [numB35_len]; exact Nat.le_refl _)]
  · have e : 4 + 2 * i = (vt0 n more blen).length + i * 2 := by rw [vt0_length]; omega
    have h2 : i * 2 + 2 ≤ (all.flatMap (numB 35)).length := by rw [flat35_length, hal]; omega
    rw [e, get_part (vt0 n more blen) (all.flatMap (numB 35)) Z (i * 2) 2 h2, flat35_drop all i (by omega)]
    congr 1
    rw [List.getD_eq_getElem?_getD, List.getElem?_eq_getElem (by omega)]; rfl

theorem lay_behind {fs : List Fld} {B T : List UInt8} {sl : List Nat} (more : Nat) (hb : Body fs B sl) (hT : VtOk T (fs.length + more) (sl ++ List.replicate more 0)) (hB : B.length ≤ 65535) (hN : 4 + 2 * (fs.length + more) ≤ 65535) (hs : ∀ x ∈ sl, x ≤ 65535) :
    Lay (numB 34 8 ++ [0, 0, 0, 0] ++ (numB 33 (4294967296 - B.length) ++ B.drop 4) ++ T) 8 (8 + B.length) (fs.length + more) (sl ++ List.replicate more 0) B := by
  have hB4 := hb.four
  obtain ⟨P, hP⟩ : ∃ P, P = numB 34 8 ++ [(0 : UInt8), 0, 0, 0] := ⟨_, rfl⟩
  have hPl : P.length = 8 := by rw [hP, List.length_append, numB34_len]; rfl
  obtain ⟨X, hX⟩ : ∃ X, X = numB 33 (4294967296 - B.length) ++ B.drop 4 := ⟨_, rfl⟩
  have hXl : X.length = B.length := by rw [hX, List.length_append, numB33_len, List.length_drop]; omega
  have hX4 : X.take 4 = numB 33 (4294967296 - B.length) := by rw [hX, List.take_append_of_le_length (by rw [numB33_len]; exact Nat.le_refl _), List.take_of_length_le (by rw [numB33_len]; exact Nat.le_refl _)]
  have hXd : ∀ s, 4 ≤ s → X.drop s = B.drop s := fun s hs4 => by
    have : X.drop s = (X.drop 4).drop (s - 4) := by rw [List.drop_drop]; congr 1; omega
    rw [this, hX, drop_head _ _ 4 (numB33_len _), List.drop_drop]
    congr 1; omega
  rw [← hP, ← hX]
  have hlen : (P ++ X ++ T).length = 8 + B.length + T.length := by rw [List.length_append, List.length_append, hPl, hXl]
  have hlo := hT.lo
  have hhi := hT.hi
  have hall : ∀ i, (sl ++ List.replicate more 0).getD i 0 ≤ 65535 := fun i => by
    by_cases hi : i < (sl ++ List.replicate more 0).length
    · rw [List.getD_eq_getElem?_getD, List.getElem?_eq_getElem hi]
      have hm := List.getElem_mem hi
      rcases List.mem_append.1 hm with hm | hm
      · exact hs _ hm
      · rw [List.mem_replicate] at hm; show (sl ++ List.replicate more 0)[i] ≤ 65535; omega
    · rw [List.getD_eq_getElem?_getD, List.getElem?_eq_none (by omega)]; exact Nat.zero_le _
  refine ⟨⟨4294967296 - B.length, ?_, ?_⟩, by simp [hb.len], ?_, hN, fun i hi => ?_, by omega, by omega, fun s z h4 hz => ⟨by omega, ?_⟩, .inr (Nat.le_refl _), ?_, ⟨Nat.le_refl _, by omega⟩, by omega⟩
  · have h := get_part P X T 0 4 (by omega)
    rw [hPl, List.drop_zero, hX4] at h
    have h2 := mGet_of (P ++ X ++ T) 33 8 _ (by decide) (by rw [hlen]; show 8 + 4 ≤ _; omega) h
    rw [h2, le_numB 33 _ (by decide) (by show _ < 2 ^ 32; omega)]
  · unfold mVt; rw [if_neg (by omega)]; omega
  · have h := get_part (P ++ X) T [] 0 2 (by omega)
    rw [List.append_nil, List.length_append, hPl, hXl, List.drop_zero, hT.size] at h
    have h2 := mGet_of (P ++ X ++ T) 35 (8 + B.length) _ (by decide) (by rw [hlen]; show 8 + B.length + 2 ≤ _; omega) h
    rw [h2, le_numB 35 _ (by decide) (by show _ < 2 ^ 16; omega)]
  · have h := get_part (P ++ X) T [] (4 + 2 * i) 2 (by omega)
    rw [List.append_nil, List.length_append, hPl, hXl, hT.slot i hi] at h
    have h2 := mGet_of (P ++ X ++ T) 35 (8 + B.length + (4 + 2 * i)) _ (by decide) (by rw [hlen]; show 8 + B.length + (4 + 2 * i) + 2 ≤ _; omega) h
    rw [show 8 + B.length + 4 + 2 * i = 8 + B.length + (4 + 2 * i) by omega, h2, le_numB 35 _ (by decide) (by have := hall i; show _ < 2 ^ 16; omega)]
  · have h := get_part P X T s z (by omega)
    rw [hPl, hXd s h4] at h
    exact h
  · have h2 := mGet_of (P ++ X ++ T) 34 0 (numB 34 8) (by decide) (by rw [hlen]; show 0 + 4 ≤ _; omega) (by
      show ((P ++ X ++ T).drop 0).take 4 = _
      rw [List.drop_zero, hP, List.append_assoc, List.append_assoc, List.take_append_of_le_length (by rw [numB34_len]; exact Nat.le_refl _), List.take_of_length_le (by rw [numB34_len]; exact Nat.le_refl _)])
    rw [h2, le_numB 34 _ (by decide) (by decide)]
theorem lay_front {fs : List Fld} {B T : List UInt8} {sl : List Nat} (more : Nat) (hb : Body fs B sl) (hT : VtOk T (fs.length + more) (sl ++ List.replicate more 0)) (hB : B.length ≤ 65535) (hN : 4 + 2 * (fs.length + more) ≤ 65535) (hs : ∀ x ∈ sl, x ≤ 65535) :
    Lay (numB 34 (8 + T.length) ++ [0, 0, 0, 0] ++ T ++ (numB 33 T.length ++ B.drop 4)) (8 + T.length) 8 (fs.length + more) (sl ++ List.replicate more 0) B := by
  have hB4 := hb.four
  obtain ⟨P, hP⟩ : ∃ P, P = numB 34 (8 + T.length) ++ [(0 : UInt8), 0, 0, 0] := ⟨_, rfl⟩
  have hPl : P.length = 8 := by rw [hP, List.length_append, numB34_len]; rfl
  obtain ⟨X, hX⟩ : ∃ X, X = numB 33 T.length ++ B.drop 4 := ⟨_, rfl⟩
  have hXl : X.length = B.length := by rw [hX, List.length_append, numB33_len, List.length_drop]; omega
  have hX4 : X.take 4 = numB 33 T.length := by rw [hX, List.take_append_of_le_length (by rw [numB33_len]; exact Nat.le_refl _), List.take_of_length_le (by rw [numB33_len]; exact Nat.le_refl _)]
  have hXd : ∀ s, 4 ≤ s → X.drop s = B.drop s := fun s hs4 => by
    have : X.drop s = (X.drop 4).drop (s - 4) := by rw [List.drop_drop]; congr 1; omega
    rw [this, hX, drop_head _ _ 4 (numB33_len _), List.drop_drop]
    congr 1; omega
  rw [← hP, ← hX]
  have hlen : (P ++ T ++ X).length = 8 + T.length + B.length := by rw [List.length_append, List.length_append, hPl, hXl]
  have hlo := hT.lo
  have hhi := hT.hi
  have hall : ∀ i, (sl ++ List.replicate more 0).getD i 0 ≤ 65535 := fun i => by
    by_cases hi : i < (sl ++ List.replicate more 0).length
    · rw [List.getD_eq_getElem?_getD, List.getElem?_eq_getElem hi]
      have hm := List.getElem_mem hi
      rcases List.mem_append.1 hm with hm | hm
      · exact hs _ hm
      · rw [List.mem_replicate] at hm; show (sl ++ List.replicate more 0)[i] ≤ 65535; omega
    · rw [List.getD_eq_getElem?_getD, List.getElem?_eq_none (by omega)]; exact Nat.zero_le _
  refine ⟨⟨T.length, ?_, ?_⟩, by simp [hb.len], ?_, hN, fun i hi => ?_, by omega, by omega, fun s z h4 hz => ⟨by omega, ?_⟩, .inl (by omega), ?_, ⟨by omega, Nat.le_refl _⟩, by omega⟩
  · have h := get_part (P ++ T) X [] 0 4 (by omega)
    rw [List.append_nil, List.length_append, hPl, List.drop_zero, hX4] at h
    have h2 := mGet_of (P ++ T ++ X) 33 (8 + T.length) _ (by decide) (by rw [hlen]; show 8 + T.length + 4 ≤ _; omega) h
    rw [h2, le_numB 33 _ (by decide) (by show _ < 2 ^ 32; omega)]
  · unfold mVt w32; rw [if_pos (by omega)]; omega
  · have h := get_part P T X 0 2 (by omega)
    rw [hPl, List.drop_zero, hT.size] at h
    have h2 := mGet_of (P ++ T ++ X) 35 8 _ (by decide) (by rw [hlen]; show 8 + 2 ≤ _; omega) h
    rw [h2, le_numB 35 _ (by decide) (by show _ < 2 ^ 16; omega)]
  · have h := get_part P T X (4 + 2 * i) 2 (by omega)
    rw [hPl, hT.slot i hi] at h
    have h2 := mGet_of (P ++ T ++ X) 35 (8 + (4 + 2 * i)) _ (by decide) (by rw [hlen]; show 8 + (4 + 2 * i) + 2 ≤ _; omega) h
    rw [show 8 + 4 + 2 * i = 8 + (4 + 2 * i) by omega, h2, le_numB 35 _ (by decide) (by have := hall i; show _ < 2 ^ 16; omega)]
  · have h := get_part (P ++ T) X [] s z (by omega)
    rw [List.append_nil, List.length_append, hPl, hXd s h4] at h
    exact h
  · have h2 := mGet_of (P ++ T ++ X) 34 0 (numB 34 (8 + T.length)) (by decide) (by rw [hlen]; show 0 + 4 ≤ _; omega) (by
      show ((P ++ T ++ X).drop 0).take 4 = _
      rw [List.drop_zero, hP, List.append_assoc, List.append_assoc, List.take_append_of_le_length (by rw [numB34_len]; exact Nat.le_refl _), List.take_of_length_le (by rw [numB34_len]; exact Nat.le_refl _)])
    rw [h2, le_numB 34 _ (by decide) (by show _ < 2 ^ 32; omega)]

theorem lay_of {fs : List Fld} {more : Nat} {behind : Bool} {l : List UInt8} {pos : Nat} (h : mkTable fs more behind = some (l, pos)) :
    ∃ vt B sl, Lay l pos vt (fs.length + more) (sl ++ List.replicate more 0) B ∧ Body fs B sl := by
  unfold mkTable at h
  obtain ⟨st, hst, h⟩ := Option.bind_eq_some_iff.1 h
  split at h
  · cases h
  · rename_i hbig
    injection h with h
    have hb0 := body_of fs fs.length (Nat.le_refl _) st (by rw [List.take_length]; exact hst)
    rw [List.take_length] at hb0
    have hb : Body fs (mkBody st.1) st.2 := hb0.grow
    have hs0 := mkFields_slots fs.length (Nat.le_refl _) st (by rw [List.take_length]; exact hst)
    have hbl : st.1.length ≤ (mkBody st.1).length := by unfold mkBody; rw [List.length_append]; omega
    have hT := vt_ok fs.length more (mkBody st.1).length st.2 hb.len
    have hs : ∀ x ∈ st.2, x ≤ 65535 := fun x hx => by have := hs0 x hx; omega
    unfold mkEnd at h
    cases behind with
    | true =>
      have h1 := lay_behind more hb hT (by omega) (by omega) hs
      rw [if_pos rfl] at h
      injection h with e1 e2
      rw [← e1, ← e2]
      exact ⟨_, _, _, h1, hb⟩
    | false =>
      have h1 := lay_front more hb hT (by omega) (by omega) hs
      rw [if_neg (by decide)] at h
      injection h with e1 e2
      rw [← e1, ← e2]
      exact ⟨_, _, _, h1, hb⟩

/-- What a field is read as. -/
theorem read_has {l : List UInt8} {pos vt N : Nat} {all : List Nat} {B : List UInt8} (h : Lay l pos vt N all B) (i : Nat) (k : Int) (x num : Nat) (hk : numSize k ≠ 0 ∧ k ≤ 10) (h4 : 4 ≤ all.getD i 0) (hl : all.getD i 0 + numSize k ≤ B.length)
    (hx : (B.drop (all.getD i 0)).take (numSize k) = numB k x) (hi : 4 + 2 * i < 65536) : (mAns l pos 1 k (4 + 2 * i) num).1 = Ans.ofNum (le (numB k x)) := by
  have ho := h.offset i
  have hp := h.plow
  obtain ⟨h5, h6⟩ := h.body _ _ h4 hl
  have hs : slotted k false = true := by simp [slotted, hk.1, hk.2]
  have hg : mGet l k (w32 (pos + all.getD i 0)) = some (le (numB k x)) := by
    have e : w32 (pos + all.getD i 0) = pos + all.getD i 0 := by unfold w32; omega
    rw [e]
    exact mGet_of l k _ _ hk.1 h5 (h6.trans hx)
  have h35 : k ≠ 35 := by omega
  have hne : ¬ all.getD i 0 = 0 := by omega
  have hnv : numVal k (le (numB k x)) = le (numB k x) := numVal_open _ _ (by
    rintro ⟨rfl, h⟩
    have e : numB 0 x = leB 1 (if (0 : Int) = 0 ∧ x ≠ 0 then 1 else x) := rfl
    rw [e, le_leB] at h
    split at h
    · simp at h
    · have : x = 0 := by simp_all
      subst this; simp at h)
  simp only [mAns, mStep, mGetSlot, hs, Nat.mod_eq_of_lt hi, ho, Option.bind_some, if_neg hne, if_neg h35, hg, Option.map_some, hnv]
  rfl
theorem read_no {l : List UInt8} {pos vt N : Nat} {all : List Nat} {B : List UInt8} (h : Lay l pos vt N all B) (i : Nat) (num : Nat) (h0 : all.getD i 0 = 0) (hn : num < 2 ^ 64) (hi : 4 + 2 * i < 65536) : (mAns l pos 1 7 (4 + 2 * i) num).1 = Ans.ofNum num := by
  have ho := h.offset i
  rw [h0] at ho
  have hs : slotted 7 false = true := by decide
  have hd : defVal 7 num = num := by
    unfold defVal
    rw [if_neg (by decide)]
    exact Nat.mod_eq_of_lt hn
  simp only [mAns, mStep, mGetSlot, hs, Nat.mod_eq_of_lt hi, ho, Option.bind_some, if_true, hd, Option.map_some]
  rfl
end Go.Proofs.YtjfgippolckaeaaGreat
