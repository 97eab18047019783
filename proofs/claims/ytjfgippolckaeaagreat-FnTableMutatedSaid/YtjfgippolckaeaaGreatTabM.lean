/- The steps over a table in plain words: what the package does (none: it panics), what the reference says, and that they are one where the reference leaves nothing open. -/
import Derived.Test.YtjfgippolckaeaaGreatBase
namespace Go.Proofs.YtjfgippolckaeaaGreat

/-- What a step answers. -/
structure Ans where
  num : Nat
  text : List UInt8
  done : Bool
  pan : Bool
def Ans.dead : Ans := ⟨0, [], false, true⟩
def Ans.ofNum (n : Nat) : Ans := ⟨n, [], false, false⟩
def Ans.ofText (l : List UInt8) : Ans := ⟨0, l, false, false⟩
def Ans.ofDone (b : Bool) : Ans := ⟨0, [], b, false⟩


/-- The bits of a kind at a place. -/
def mGet (l : List UInt8) (k : Int) (p : Nat) : Option Nat :=
  if numSize k = 0 ∨ l.length < p + numSize k then none else some (le ((l.drop p).take (numSize k)))
/-- A number of a kind is written at a place. -/
def mPut (l : List UInt8) (k : Int) (p n : Nat) : Option (List UInt8) :=
  if numSize k = 0 ∨ l.length < p + numSize k then none else some (l.take p ++ numB k n ++ l.drop (p + numSize k))
def w32 (n : Nat) : Nat := n % 4294967296
/-- Where the vtable stands. -/
def mVt (pos back : Nat) : Nat := if back ≤ pos then w32 (pos - back) else 4294967296 - (back - pos)
def mOffset (l : List UInt8) (pos slot : Nat) : Option Nat :=
  (mGet l 33 pos).bind fun back => (mGet l 35 (mVt pos back)).bind fun size =>
    if slot < size then mGet l 35 (w32 (mVt pos back + slot)) else some 0
def mJump (l : List UInt8) (p : Nat) : Option Nat := (mGet l 34 p).map fun n => w32 (p + n)
def mText (l : List UInt8) (p : Nat) : Option (List UInt8) :=
  (mJump l p).bind fun q => (mGet l 34 q).bind fun n =>
    if w32 (w32 (q + 4) + n) < w32 (q + 4) ∨ l.length < w32 (w32 (q + 4) + n) then none
    else some ((l.drop (w32 (q + 4))).take (w32 (w32 (q + 4) + n) - w32 (q + 4)))
/-- The kinds that have slots. -/
def slotted (k : Int) (mutate : Bool) : Bool := decide (numSize k ≠ 0) && (decide (k ≤ 10) || k == 32 || (k == 35 && !mutate))
/-- The default of a slot, by its lowest bits. -/
def defVal (k : Int) (n : Nat) : Nat := if k = 0 then (if n = 0 then 0 else 1) else n % 2 ^ (8 * numSize k)
def mGetSlot (l : List UInt8) (pos : Nat) (k : Int) (slot n : Nat) : Option Nat :=
  if slotted k false then
    (mOffset l pos slot).bind fun o => if o = 0 then some (defVal k n) else if k = 35 then some o else (mGet l k (w32 (pos + o))).map (numVal k)
  else none
def mPutSlot (l : List UInt8) (pos : Nat) (k : Int) (slot n : Nat) : Option (Bool × List UInt8) :=
  if slotted k true then
    (mOffset l pos slot).bind fun o => if o = 0 then some (false, l) else (mPut l k (w32 (pos + o)) n).map fun m => (true, m)
  else none

/-- What the package does in a step: the answer and the bytes behind it; none: it panics, and the bytes are what they were. -/
def mStep (l : List UInt8) (pos : Nat) (op k : Int) (off num : Nat) : Option (Ans × List UInt8) :=
  if op = 0 then (mOffset l pos (off % 65536)).map fun n => (.ofNum n, l)
  else if op = 1 then (mGetSlot l pos k (off % 65536) num).map fun n => (.ofNum n, l)
  else if op = 2 then (mGet l k off).map fun n => (.ofNum (numVal k n), l)
  else if op = 3 then (mJump l off).map fun n => (.ofNum n, l)
  else if op = 4 ∨ op = 5 then (mText l off).map fun t => (.ofText t, l)
  else if op = 6 then (mJump l (w32 (off + pos))).map fun n => (.ofNum (w32 (n + 4)), l)
  else if op = 7 then ((mJump l (w32 (off + pos))).bind fun p => mGet l 34 p).map fun n => (.ofNum n, l)
  else if op = 8 then (mJump l (w32 (off + pos))).map fun n => (.ofNum n, l)
  else if op = 9 then (mPut l k off num).map fun m => (.ofDone true, m)
  else if op = 10 then (mPutSlot l pos k (off % 65536) num).map fun x => (.ofDone x.1, x.2)
  else none

/-- The answer of a step as it is told, and the bytes behind it. -/
def mAns (l : List UInt8) (pos : Nat) (op k : Int) (off num : Nat) : Ans × List UInt8 := (mStep l pos op k off num).getD (Ans.dead, l)

/-! The reference. -/
/-- A reading that may be left open: a value, and how it ends (0 well, 1 outside, 2 open). -/
def sOffset (l : List UInt8) (pos slot : Nat) : Nat × Nat :=
  let a := numAt l 33 pos
  if a.2 ≠ 0 then (0, a.2)
  else
    let s := numAt l 35 (mVt pos a.1)
    if s.2 ≠ 0 ∨ s.1 ≤ slot then (0, s.2) else numAt l 35 (w32 (mVt pos a.1 + slot))
def sJump (l : List UInt8) (p : Nat) : Nat × Nat := (w32 (p + (numAt l 34 p).1), (numAt l 34 p).2)
def sPut (l : List UInt8) (k : Int) (p n : Nat) : List UInt8 × Nat :=
  if numSize k = 0 ∨ l.length < p + numSize k then (l, 1) else (l.take p ++ numB k n ++ l.drop (p + numSize k), 0)

/-- The end of a step that read a number. -/
def sEnd (l : List UInt8) (r : Nat × Nat) : Ans × List UInt8 × Nat := if r.2 ≠ 0 then (⟨0, [], false, r.2 == 1⟩, l, r.2) else (.ofNum r.1, l, 0)
def sText (l : List UInt8) (p : Nat) : Ans × List UInt8 × Nat :=
  let a := sJump l p
  if a.2 ≠ 0 then sEnd l (0, a.2)
  else
    let s := numAt l 34 a.1
    if s.2 ≠ 0 then sEnd l (0, s.2)
    else if w32 (w32 (a.1 + 4) + s.1) < w32 (a.1 + 4) ∨ l.length < w32 (w32 (a.1 + 4) + s.1) then sEnd l (0, 1)
    else (.ofText ((l.drop (w32 (a.1 + 4))).take (w32 (w32 (a.1 + 4) + s.1) - w32 (a.1 + 4))), l, 0)
def sWrite (r : List UInt8 × Nat) : Ans × List UInt8 × Nat := (⟨0, [], r.2 == 0, r.2 == 1⟩, r.1, r.2)
/-- The reference's step: the answer, the bytes behind it, how it ends. -/
def sStep (l : List UInt8) (pos : Nat) (op k : Int) (off num : Nat) : Ans × List UInt8 × Nat :=
  if op = 0 then sEnd l (sOffset l pos (off % 65536))
  else if op = 1 ∨ op = 10 then
    if slotted k (op == 10) then
      let a := sOffset l pos (off % 65536)
      if a.2 ≠ 0 then sEnd l (0, a.2)
      else if op = 10 then
        if a.1 = 0 then (⟨0, [], false, false⟩, l, 0) else sWrite (sPut l k (w32 (pos + a.1)) num)
      else if a.1 = 0 then sEnd l (defVal k num, 0)
      else if k = 35 then sEnd l (a.1, 0)
      else sEnd l (numAt l k (w32 (pos + a.1)))
    else sEnd l (0, 1)
  else if op = 2 then sEnd l (numAt l k off)
  else if op = 9 then sWrite (sPut l k off num)
  else if op = 3 then sEnd l (sJump l off)
  else if op = 4 ∨ op = 5 then sText l off
  else if op = 6 ∨ op = 7 ∨ op = 8 then
    let a := sJump l (w32 (off + pos))
    if a.2 ≠ 0 then sEnd l (0, a.2)
    else if op = 6 then sEnd l (w32 (a.1 + 4), 0)
    else if op = 8 then sEnd l (a.1, 0)
    else sEnd l (numAt l 34 a.1)
  else sEnd l (0, 1)

/-- What the reference leaves open, or what comes behind a change that panics, is not asked. -/
def stops (op : Int) (how : Nat) : Bool := how == 2 || (how == 1 && (op == 9 || op == 10))

attribute [local irreducible] w32 mVt
set_option linter.unusedSimpArgs false

theorem numAt_cases (l : List UInt8) (k : Int) (p : Nat) :
    (mGet l k p = none ∧ numAt l k p = (0, 1)) ∨ (∃ n, mGet l k p = some n ∧ k = 0 ∧ 1 < n ∧ numAt l k p = (0, 2)) ∨ (∃ n, mGet l k p = some n ∧ ¬ (k = 0 ∧ 1 < n) ∧ numAt l k p = (n, 0)) := by
  unfold mGet numAt
  by_cases h : numSize k = 0 ∨ l.length < p + numSize k
  · exact .inl ⟨by rw [if_pos h], by rw [if_pos h]⟩
  · right
    rw [if_neg h, if_neg h]
    by_cases h2 : k = 0 ∧ 1 < le ((l.drop p).take (numSize k))
    · exact .inl ⟨_, rfl, h2.1, h2.2, by rw [if_pos h2]⟩
    · exact .inr ⟨_, rfl, h2, by rw [if_neg h2]⟩
theorem numAt_num (l : List UInt8) (k : Int) (p : Nat) (hk : k ≠ 0) : (mGet l k p = none ∧ numAt l k p = (0, 1)) ∨ (∃ n, mGet l k p = some n ∧ numAt l k p = (n, 0)) := by
  rcases numAt_cases l k p with h | ⟨n, _, h, _⟩ | ⟨n, h1, _, h2⟩
  · exact .inl h
  · exact absurd h hk
  · exact .inr ⟨n, h1, h2⟩

theorem sOffset_cases (l : List UInt8) (pos slot : Nat) : (mOffset l pos slot = none ∧ ∃ n, sOffset l pos slot = (n, 1)) ∨ (∃ n, mOffset l pos slot = some n ∧ sOffset l pos slot = (n, 0)) := by
  unfold mOffset sOffset
  rcases numAt_num l 33 pos (by decide) with ⟨h1, h2⟩ | ⟨b, h1, h2⟩
  · exact .inl ⟨by rw [h1, Option.bind_none], 0, by simp only [h2, ne_eq, Nat.one_ne_zero, not_false_eq_true, if_true]⟩
  · rw [h1]
    simp only [h2, Option.bind_some, ne_eq, not_true_eq_false, if_false]
    generalize mVt pos b = v
    rcases numAt_num l 35 v (by decide) with ⟨h3, h4⟩ | ⟨s, h3, h4⟩
    · exact .inl ⟨by rw [h3, Option.bind_none], 0, by simp only [h4, Nat.one_ne_zero, not_false_eq_true, true_or, if_true]⟩
    · rw [h3]
      simp only [h4, Option.bind_some, not_true_eq_false, false_or]
      by_cases h5 : slot < s
      · rw [if_pos h5, if_neg (by omega)]
        rcases numAt_num l 35 (w32 (v + slot)) (by decide) with ⟨h6, h7⟩ | ⟨n, h6, h7⟩
        · exact .inl ⟨h6, 0, h7⟩
        · exact .inr ⟨n, h6, h7⟩
      · rw [if_neg h5, if_pos (by omega)]
        exact .inr ⟨0, rfl, rfl⟩
theorem sJump_cases (l : List UInt8) (p : Nat) : (mJump l p = none ∧ ∃ n, sJump l p = (n, 1)) ∨ (∃ n, mJump l p = some n ∧ sJump l p = (n, 0)) := by
  unfold mJump sJump
  rcases numAt_num l 34 p (by decide) with ⟨h1, h2⟩ | ⟨b, h1, h2⟩
  · exact .inl ⟨by rw [h1]; rfl, _, by rw [h2]⟩
  · exact .inr ⟨_, by rw [h1]; rfl, by rw [h2]⟩
theorem sPut_cases (l : List UInt8) (k : Int) (p n : Nat) : (mPut l k p n = none ∧ sPut l k p n = (l, 1)) ∨ (∃ m, mPut l k p n = some m ∧ sPut l k p n = (m, 0)) := by
  unfold mPut sPut
  by_cases h : numSize k = 0 ∨ l.length < p + numSize k
  · exact .inl ⟨by rw [if_pos h], by rw [if_pos h]⟩
  · exact .inr ⟨_, by rw [if_neg h], by rw [if_neg h]⟩
theorem numVal_open (k : Int) (n : Nat) (h : ¬ (k = 0 ∧ 1 < n)) : numVal k n = n := by
  unfold numVal; split
  · split <;> omega
  · rfl

/-- A change that panics changes nothing, and where the reference leaves nothing open the package does what it says. -/
theorem step_same (l : List UInt8) (pos : Nat) (op k : Int) (off num : Nat) (h : stops op (sStep l pos op k off num).2.2 = false) :
    mAns l pos op k off num = ((sStep l pos op k off num).1, (sStep l pos op k off num).2.1) := by
  unfold mAns mStep
  by_cases h0 : op = 0
  · subst h0
    simp only [if_true, sStep]
    rcases sOffset_cases l pos (off % 65536) with ⟨h1, n, h2⟩ | ⟨n, h1, h2⟩ <;> rw [h1, h2] <;> rfl
  by_cases h1 : op = 1
  · subst h1
    rw [if_neg h0, if_pos rfl, mGetSlot]
    cases hs : slotted k false with
    | false =>
      have e : sStep l pos 1 k off num = sEnd l (0, 1) := by simp [sStep, hs]
      rw [e]; rfl
    | true =>
      rw [if_pos rfl]
      rcases sOffset_cases l pos (off % 65536) with ⟨h1, n, h2⟩ | ⟨n, h1, h2⟩
      · have e : sStep l pos 1 k off num = sEnd l (0, 1) := by simp [sStep, hs, h2]
        rw [h1, e]; rfl
      · rw [h1, Option.bind_some]
        by_cases hn : n = 0
        · have e : sStep l pos 1 k off num = sEnd l (defVal k num, 0) := by simp [sStep, hs, h2, hn]
          rw [if_pos hn, e]; rfl
        · rw [if_neg hn]
          by_cases hk : k = 35
          · have e : sStep l pos 1 k off num = sEnd l (n, 0) := by subst hk; simp [sStep, hs, h2, hn]
            rw [if_pos hk, e]; rfl
          · rw [if_neg hk]
            have e : sStep l pos 1 k off num = sEnd l (numAt l k (w32 (pos + n))) := by simp [sStep, hs, h2, hn, hk]
            rw [e] at h ⊢
            rcases numAt_cases l k (w32 (pos + n)) with ⟨h3, h4⟩ | ⟨m, h3, _, _, h4⟩ | ⟨m, h3, h5, h4⟩
            · rw [h3, h4]; rfl
            · rw [h4] at h; simp [sEnd, stops] at h
            · rw [h3, h4]; simp [numVal_open _ _ h5, sEnd]
  by_cases h2 : op = 2
  · subst h2
    simp only [sStep] at h ⊢
    simp only [Int.reduceEq, if_false, if_true, or_self] at h ⊢
    rcases numAt_cases l k off with ⟨h3, h4⟩ | ⟨m, h3, _, _, h4⟩ | ⟨m, h3, h5, h4⟩
    · rw [h3, h4]; rfl
    · rw [h4] at h; simp [sEnd, stops] at h
    · rw [h3, h4]; simp [numVal_open _ _ h5, sEnd]
  by_cases h3 : op = 3
  · subst h3
    simp only [sStep] at h ⊢
    simp only [Int.reduceEq, if_false, if_true, or_self] at h ⊢
    rcases sJump_cases l off with ⟨h1, n, h2⟩ | ⟨n, h1, h2⟩ <;> rw [h1, h2] <;> rfl
  by_cases h4 : op = 4 ∨ op = 5
  · have e : sStep l pos op k off num = sText l off := by rcases h4 with rfl | rfl <;> rfl
    rw [e]
    rw [if_neg h0, if_neg h1, if_neg h2, if_neg h3, if_pos h4]
    unfold mText sText
    rcases sJump_cases l off with ⟨h1, n, h2⟩ | ⟨q, h1, h2⟩
    · rw [h1, h2]; rfl
    · rw [h1, h2]
      simp only [Option.bind_some, ne_eq, not_true_eq_false, if_false]
      rcases numAt_num l 34 q (by decide) with ⟨h3, h4⟩ | ⟨s, h3, h4⟩
      · rw [h3, h4]; rfl
      · rw [h3, h4]
        simp only [Option.bind_some, not_true_eq_false, if_false]
        by_cases h5 : w32 (w32 (q + 4) + s) < w32 (q + 4) ∨ l.length < w32 (w32 (q + 4) + s)
        · rw [if_pos h5, if_pos h5]; rfl
        · rw [if_neg h5, if_neg h5]; rfl
  rw [if_neg h0, if_neg h1, if_neg h2, if_neg h3, if_neg h4]
  by_cases h6 : op = 6
  · subst h6
    simp only [sStep] at h ⊢
    simp only [Int.reduceEq, if_false, if_true, or_self, true_or] at h ⊢
    rcases sJump_cases l (w32 (off + pos)) with ⟨h1, n, h2⟩ | ⟨n, h1, h2⟩ <;> rw [h1, h2] <;> rfl
  by_cases h7 : op = 7
  · subst h7
    simp only [sStep] at h ⊢
    simp only [Int.reduceEq, if_false, if_true, or_self, true_or, or_true] at h ⊢
    rcases sJump_cases l (w32 (off + pos)) with ⟨h1, n, h2⟩ | ⟨q, h1, h2⟩
    · rw [h1, h2]; rfl
    · rw [h1, h2]
      simp only [Option.bind_some, ne_eq, not_true_eq_false, if_false]
      rcases numAt_num l 34 q (by decide) with ⟨h3, h4⟩ | ⟨s, h3, h4⟩ <;> rw [h3, h4] <;> rfl
  by_cases h8 : op = 8
  · subst h8
    simp only [sStep] at h ⊢
    simp only [Int.reduceEq, if_false, if_true, or_self, true_or, or_true] at h ⊢
    rcases sJump_cases l (w32 (off + pos)) with ⟨h1, n, h2⟩ | ⟨n, h1, h2⟩ <;> rw [h1, h2] <;> rfl
  by_cases h9 : op = 9
  · subst h9
    simp only [sStep] at h ⊢
    simp only [Int.reduceEq, if_false, if_true, or_self, true_or, or_true] at h ⊢
    rcases sPut_cases l k off num with ⟨h1, h2⟩ | ⟨n, h1, h2⟩ <;> rw [h1, h2] <;> rfl
  by_cases h10 : op = 10
  · subst h10
    simp only [sStep, mPutSlot] at h ⊢
    simp only [Int.reduceEq, if_false, if_true, or_self, true_or, or_true, show ((10 : Int) == 10) = true from rfl] at h ⊢
    cases hs : slotted k true with
    | false => simp [sEnd, Ans.dead]
    | true =>
      simp only [if_true, hs] at h ⊢
      rcases sOffset_cases l pos (off % 65536) with ⟨h1, n, h2⟩ | ⟨n, h1, h2⟩
      · rw [h1, h2]; rfl
      · rw [h1, h2]
        simp only [Option.bind_some, ne_eq, not_true_eq_false, if_false]
        by_cases hn : n = 0
        · rw [if_pos hn, if_pos hn]; rfl
        · rw [if_neg hn, if_neg hn]
          rcases sPut_cases l k (w32 (pos + n)) num with ⟨h3, h4⟩ | ⟨m, h3, h4⟩ <;> rw [h3, h4] <;> rfl
  · have e : sStep l pos op k off num = sEnd l (0, 1) := by simp [sStep, h0, h1, h2, h3, h4, h6, h7, h8, h9, h10]
    rw [e, if_neg h6, if_neg h7, if_neg h8, if_neg h9, if_neg h10]; rfl

end Go.Proofs.YtjfgippolckaeaaGreat
