/- A field of a made table that is changed in place: in plain words. -/
import Derived.Test.YtjfgippolckaeaaGreatMakeLaw
namespace Go.Proofs.YtjfgippolckaeaaGreat
open Go.RowKit
set_option linter.unusedVariables false
set_option linter.unusedSimpArgs false

theorem slice_ext {a b : List UInt8} {p q z : Nat} (h : ∀ t, t < z → a[p + t]? = b[q + t]?) : (a.drop p).take z = (b.drop q).take z := by
  apply List.ext_getElem?
  intro j
  rw [List.getElem?_take, List.getElem?_take, List.getElem?_drop, List.getElem?_drop]
  split
  · rename_i hj; exact h j hj
  · rfl
theorem slice_at {a b : List UInt8} {p q z : Nat} (h : (a.drop p).take z = (b.drop q).take z) {t : Nat} (ht : t < z) : a[p + t]? = b[q + t]? := by
  have := congrArg (fun l : List UInt8 => l[t]?) h
  simpa only [List.getElem?_take, List.getElem?_drop, if_pos ht] using this
/-- Bytes with x at p. -/
def putAt (l : List UInt8) (p : Nat) (x : List UInt8) : List UInt8 := l.take p ++ x ++ l.drop (p + x.length)
theorem putAt_length (l : List UInt8) (p : Nat) (x : List UInt8) (h : p + x.length ≤ l.length) : (putAt l p x).length = l.length := by simp [putAt]; omega
theorem putAt_other (l : List UInt8) (p : Nat) (x : List UInt8) (h : p + x.length ≤ l.length) (j : Nat) (hj : j < p ∨ p + x.length ≤ j) : (putAt l p x)[j]? = l[j]? := by
  unfold putAt
  by_cases h1 : j < p
  · rw [List.append_assoc, List.getElem?_append_left (by rw [List.length_take]; omega), List.getElem?_take, if_pos h1]
  · rw [List.getElem?_append_right (by rw [List.length_append, List.length_take]; omega), List.getElem?_drop]
    congr 1
    rw [List.length_append, List.length_take]; omega
theorem putAt_in (l : List UInt8) (p : Nat) (x : List UInt8) (h : p + x.length ≤ l.length) (j : Nat) (hj : j < x.length) : (putAt l p x)[p + j]? = x[j]? := by
  unfold putAt
  rw [List.append_assoc, List.getElem?_append_right (by rw [List.length_take]; omega), List.getElem?_append_left (by rw [List.length_take]; omega)]
  congr 1
  rw [List.length_take]; omega
theorem mGet_same {m l : List UInt8} {k : Int} {q : Nat} (hl : m.length = l.length) (h : ∀ t, t < numSize k → m[q + t]? = l[q + t]?) : mGet m k q = mGet l k q := by
  unfold mGet
  rw [hl, slice_ext h]

theorem Lay.put {l : List UInt8} {pos vt N : Nat} {all : List Nat} {B x : List UInt8} (h : Lay l pos vt N all B) (s : Nat) (h4 : 4 ≤ s) (hs : s + x.length ≤ B.length) (hz : 0 < x.length) : Lay (putAt l (pos + s) x) pos vt N all (putAt B s x) := by
  have hfit := (h.body s x.length h4 hs).1
  have hBl := putAt_length B s x hs
  have hll := putAt_length l (pos + s) x (by omega)
  have he := h.eight
  have hap := h.apart
  have same : ∀ q k, (q + numSize k ≤ pos + s ∨ pos + s + x.length ≤ q) → mGet (putAt l (pos + s) x) k q = mGet l k q := fun q k hq => mGet_same hll (fun t ht => putAt_other _ _ _ (by omega) _ (by omega))
  obtain ⟨back, hb1, hb2⟩ := h.back
  refine ⟨⟨back, ?_, hb2⟩, h.len, ?_, h.fits, fun i hi => ?_, h.low, by rw [hBl]; exact h.plow, fun s' z h4' hz' => ?_, by rw [hBl]; exact hap, ?_, he, by rw [hll]; exact h.llen⟩
  · rw [same _ _ (by show pos + 4 ≤ _ ∨ _; omega)]; exact hb1
  · rw [same _ _ (by show vt + 2 ≤ _ ∨ _; omega)]; exact h.size
  · rw [same _ _ (by show vt + 4 + 2 * i + 2 ≤ _ ∨ _; omega)]; exact h.slots i hi
  · rw [hBl] at hz'
    obtain ⟨h5, h6⟩ := h.body s' z h4' hz'
    refine ⟨by rw [hll]; exact h5, slice_ext (fun t ht => ?_)⟩
    by_cases hin : s ≤ s' + t ∧ s' + t < s + x.length
    · have e1 : pos + s' + t = pos + s + (s' + t - s) := by omega
      have e2 : s' + t = s + (s' + t - s) := by omega
      rw [e1, putAt_in _ _ _ (by omega) _ (by omega), e2, putAt_in _ _ _ hs _ (by omega)]
      congr 1; omega
    · rw [putAt_other _ _ _ (by omega) _ (by omega), putAt_other _ _ _ hs _ (by omega)]
      exact slice_at h6 ht
  · rw [same _ _ (by show 0 + 4 ≤ _ ∨ _; omega)]; exact h.root

theorem numSize_pos {k : Int} (h : numSize k ≠ 0) : 0 < numSize k := Nat.pos_of_ne_zero h
theorem Body.put {fs : List Fld} {B : List UInt8} {sl : List Nat} (h : Body fs B sl) (k : Nat) (hk : k < fs.length) (hh : fs[k].has = true) (num : Nat) :
    Body (fs.set k { fs[k] with num := num }) (putAt B (sl.getD k 0) (numB fs[k].k num)) sl := by
  obtain ⟨h1, h2, h3, h4⟩ := h.at_ k hk hh
  have hxl : (numB fs[k].k num).length = numSize fs[k].k := numB_length _ _
  have hBl := putAt_length B (sl.getD k 0) (numB fs[k].k num) (by omega)
  have hhas : ∀ i (hi : i < fs.length), ((fs.set k { fs[k] with num := num })[i]'(by simpa using hi)).has = fs[i].has := fun i hi => by
    rw [List.getElem_set]; split
    · rename_i e; subst e; rfl
    · rfl
  have hkind : ∀ i (hi : i < fs.length), ((fs.set k { fs[k] with num := num })[i]'(by simpa using hi)).k = fs[i].k := fun i hi => by
    rw [List.getElem_set]; split
    · rename_i e; subst e; rfl
    · rfl
  refine ⟨by simp [h.len], by rw [hBl]; exact h.four, fun i hi hhi => ?_, fun i hi hhi => ?_, fun i j hi hj hij hh1 hh2 => ?_⟩
  · have hi' : i < fs.length := by simpa using hi
    rw [hhas i hi'] at hhi
    obtain ⟨a1, a2, a3, a4⟩ := h.at_ i hi' hhi
    rw [hkind i hi', hBl]
    refine ⟨a1, a2, a3, ?_⟩
    by_cases e : i = k
    · subst e
      have e3 : ((fs.set i { fs[i] with num := num })[i]'hi).num = num := by rw [List.getElem_set_self]
      rw [e3]
      apply List.ext_getElem?
      intro j
      rw [List.getElem?_take, List.getElem?_drop]
      split
      · rename_i hj
        rw [putAt_in _ _ _ (by omega) _ (by omega)]
      · rw [List.getElem?_eq_none (by omega)]
    · have e3 : ((fs.set k { fs[k] with num := num })[i]'hi).num = fs[i].num := by rw [List.getElem_set_ne (fun e' => e e'.symm)]
      rw [e3, ← a4]
      refine slice_ext (fun t ht => putAt_other _ _ _ (by omega) _ ?_)
      rcases Nat.lt_or_gt_of_ne e with hlt | hgt
      · have := h.apart i k hi' hk hlt hhi hh; omega
      · have := h.apart k i hk hi' hgt hh hhi; omega
  · have hi' : i < fs.length := by simpa using hi
    rw [hhas i hi'] at hhi
    exact h.no i hi' hhi
  · have hi' : i < fs.length := by simpa using hi
    have hj' : j < fs.length := by simpa using hj
    rw [hhas i hi'] at hh1
    rw [hhas j hj'] at hh2
    rw [hkind i hi']
    exact h.apart i j hi' hj' hij hh1 hh2

theorem put_has {l : List UInt8} {pos vt N : Nat} {all : List Nat} {B : List UInt8} (h : Lay l pos vt N all B) (i : Nat) (k : Int) (num : Nat) (hk : numSize k ≠ 0 ∧ k ≤ 10) (h4 : 4 ≤ all.getD i 0) (hl : all.getD i 0 + numSize k ≤ B.length)
    (hi : 4 + 2 * i < 65536) : mAns l pos 10 k (4 + 2 * i) num = (Ans.ofDone true, putAt l (pos + all.getD i 0) (numB k num)) := by
  have ho := h.offset i
  have hp := h.plow
  obtain ⟨h5, h6⟩ := h.body _ _ h4 hl
  have hs : slotted k true = true := by simp [slotted, hk.1, hk.2]
  have hne : ¬ all.getD i 0 = 0 := by omega
  have hg : mPut l k (w32 (pos + all.getD i 0)) num = some (putAt l (pos + all.getD i 0) (numB k num)) := by
    have e : w32 (pos + all.getD i 0) = pos + all.getD i 0 := by unfold w32; omega
    rw [e]
    unfold mPut putAt
    rw [if_neg (by have := hk.1; omega), numB_length]
  simp only [mAns, mStep, mPutSlot, hs, Nat.mod_eq_of_lt hi, ho, Option.bind_some, if_neg hne, hg, Option.map_some]
  rfl
theorem put_no {l : List UInt8} {pos vt N : Nat} {all : List Nat} {B : List UInt8} (h : Lay l pos vt N all B) (i : Nat) (num : Nat) (h0 : all.getD i 0 = 0) (hi : 4 + 2 * i < 65536) : mAns l pos 10 5 (4 + 2 * i) num = (Ans.ofDone false, l) := by
  have ho := h.offset i
  rw [h0] at ho
  have hs : slotted 5 true = true := by decide
  simp only [mAns, mStep, mPutSlot, hs, Nat.mod_eq_of_lt hi, ho, Option.bind_some, if_true, Option.map_some]
  rfl
end Go.Proofs.YtjfgippolckaeaaGreat
