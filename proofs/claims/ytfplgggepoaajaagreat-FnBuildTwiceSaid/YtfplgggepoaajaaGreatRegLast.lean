/- A region that draws its order, where all operations but the last one only read, and the last one comes behind all others in every order: the reads are walked once, then the last one. Over any program. -/
import Derived.Test.YtfplgggepoaajaaGreatRegInv3
import Derived.BigQuiet
namespace Go.Proofs.YtfplgggepoaajaaGreat
open Go.RowKit
set_option linter.unusedVariables false

section
variable {P : Program} {C : World → Prop} {Q : Exit → Act → World → Prop}

theorem getD_push_lt {l : Array Bool} {i : Nat} (h : i < l.size) (d : Bool) : (l.push false).getD i d = l.getD i d := by
  simp [Array.getD, h, Nat.lt_succ_of_lt h, Array.getElem_push_lt h]
theorem getD_push_false (l : Array Bool) (i : Nat) : (l.push false).getD i false = l.getD i false := by
  by_cases h : i < l.size
  · exact getD_push_lt h false
  · by_cases h2 : i = l.size
    · subst h2; simp [Array.getD]
    · have h3 : ¬ i < l.size + 1 := by omega
      simp [Array.getD, h, h3]
theorem ready_all {ops : Array Oper} (he : earlier ops = true) {listed : Array Bool} (hs : listed.size = ops.size) (hr : Region.ready .any ops listed = []) : ∀ i, i < ops.size → listed.getD i false = true := by
  intro i
  induction i using Nat.strongRecOn with
  | _ i ih =>
    intro hi
    have hil : i < listed.size := by omega
    cases hb : listed[i] with
    | true => simp [Array.getD, hil, hb]
    | false =>
      have hready : i ∈ Region.ready .any ops listed := mem_ready.2 ⟨by simp [Array.getD, hil, hb], ops[i], by simp [hi], fun e hem hbd => by
        obtain ⟨h1, h2⟩ := earlier_rank he i ops[i] (by simp [hi]) e hem hbd
        exact ih e.on h2 h1⟩
      rw [hr] at hready
      cases hready
theorem getD_push_at {l : Array Bool} {i : Nat} (h : i = l.size) : (l.push false).getD i true = false := by
  subst h; simp [Array.getD]
theorem push_set {l : Array Bool} {i : Nat} (h : i < l.size) : (l.setIfInBounds i true).push false = (l.push false).setIfInBounds i true := by
  apply Array.toList_inj.1
  simp only [Array.toList_push, Array.toList_setIfInBounds]
  rw [List.set_append_left _ _ (by simpa using h)]
/-- Every operation of l is in front of the last one. -/
def allReach (ops : Array Oper) (n : Nat) : Bool := (List.range n).all fun i => reach ops i (n + 1) n

theorem any_last {l : List Oper} {o : Oper} (hel : earlier l.toArray = true) (heo : earlier (l ++ [o]).toArray = true) (hre : allReach (l ++ [o]).toArray l.length = true)
    (hg : (l ++ [o]).all (fun x => x.guard.isNone) = true) {Qa : Act → Prop}
    (hQ : ∀ a w, C w → Qa a → wpOp P (l ++ [o]).toArray Q l.length (Q .normal) a w) :
    ∀ (fuel : Nat) (listed : Array Bool) (a : Act) (w : World), listed.size = l.length → (∀ j oj, l[j]? = some oj → listed.getD j false = true → ∀ e ∈ oj.after, Region.binds .any e = true → listed.getD e.on false = true) → C w →
      wpAnyQ P .any l.toArray C Qa fuel listed a → wpAny P .any (l ++ [o]).toArray Q (fuel + 1) (listed.push false) a w := by
  -- what is ready in the whole
  have hget : ∀ i, i < l.length → (l ++ [o]).toArray[i]? = l.toArray[i]? := fun i hi => by simp [List.getElem?_append_left hi]
  have hlastop : (l ++ [o]).toArray[l.length]? = some o := by simp
  have hlt : ∀ (listed : Array Bool), listed.size = l.length → ∀ i, i < l.length → (i ∈ Region.ready .any (l ++ [o]).toArray (listed.push false) ↔ i ∈ Region.ready .any l.toArray listed) := by
    intro listed hs i hi
    rw [mem_ready, mem_ready, getD_push_lt (by omega), hget i hi]
    simp only [getD_push_false]
  have hlast : ∀ (listed : Array Bool), listed.size = l.length → (∀ j oj, l[j]? = some oj → listed.getD j false = true → ∀ e ∈ oj.after, Region.binds .any e = true → listed.getD e.on false = true) →
      l.length ∈ Region.ready .any (l ++ [o]).toArray (listed.push false) → ∀ i, i < l.length → listed.getD i false = true := by
    intro listed hs hcl hr i hi
    obtain ⟨_, o', ho', hall⟩ := mem_ready.1 hr
    rw [hlastop] at ho'
    injection ho' with ho'
    subst ho'
    simp only [getD_push_false] at hall
    have h1 := (List.all_eq_true.1 hre) i (List.mem_range.2 hi)
    unfold reach at h1
    rw [hlastop] at h1
    simp only [List.any_eq_true, Bool.and_eq_true, Bool.or_eq_true, beq_iff_eq] at h1
    obtain ⟨e, he, hb, hor⟩ := h1
    have hel2 := hall e (by simpa using he) hb
    rcases hor with h | h
    · rw [← h]; exact hel2
    · refine reach_listed (ops := (l ++ [o]).toArray) (fun j oj hoj hj e' he' hb' => ?_) _ _ h hel2
      by_cases hjl : j < l.length
      · rw [hget j hjl] at hoj
        exact hcl j oj (by simpa using hoj) hj e' he' hb'
      · simp [Array.getD, hs, hjl] at hj
  have hdone : ∀ (listed : Array Bool), listed.size = l.length → (∀ i, i < l.length → listed.getD i false = true) → Region.ready .any (l ++ [o]).toArray ((listed.push false).setIfInBounds l.length true) = [] := by
    intro listed hs hall
    cases hr : Region.ready .any (l ++ [o]).toArray ((listed.push false).setIfInBounds l.length true) with
    | nil => rfl
    | cons j r =>
      exfalso
      have hj : j ∈ Region.ready .any (l ++ [o]).toArray ((listed.push false).setIfInBounds l.length true) := by rw [hr]; simp
      obtain ⟨h1, o', ho', _⟩ := mem_ready.1 hj
      have hjs := (Array.getElem?_eq_some_iff.1 ho').1
      simp at hjs
      by_cases e : j = l.length
      · subst e
        simp [Array.getD, hs] at h1
      · have h2 := hall j (by omega)
        have hjl : j < listed.size := by omega
        have h3 : (listed.push false).getD j true = true := by
          rw [getD_push_lt hjl]
          simp only [Array.getD, hjl, dif_pos] at h2 ⊢
          exact h2
        have h4 : ((listed.push false).setIfInBounds l.length true).getD j true = (listed.push false).getD j true := by
          have hjp : j < (listed.push false).size := by simp; omega
          simp only [Array.getD, Array.size_setIfInBounds, hjp, dif_pos]
          exact Array.getElem_setIfInBounds_ne hjp (fun x => e x.symm)
        rw [h4, h3] at h1
        cases h1
  have hempty : ∀ (listed : Array Bool), listed.size = l.length → Region.ready .any (l ++ [o]).toArray (listed.push false) = [] → False := by
    intro listed hs hr
    have h1 : Region.ready .any l.toArray listed = [] := by
      cases h : Region.ready .any l.toArray listed with
      | nil => rfl
      | cons j r =>
        exfalso
        have hj : j ∈ Region.ready .any l.toArray listed := by rw [h]; simp
        have hjs : j < l.length := by
          obtain ⟨_, o', ho', _⟩ := mem_ready.1 hj
          simpa using (Array.getElem?_eq_some_iff.1 ho').1
        have := (hlt listed hs j hjs).2 hj
        rw [hr] at this; cases this
    have hall := ready_all hel (by simpa using hs) h1
    have h2 : l.length ∈ Region.ready .any (l ++ [o]).toArray (listed.push false) := mem_ready.2 ⟨getD_push_at hs.symm, o, hlastop, fun e he hb => by
      rw [getD_push_false]
      obtain ⟨_, h3⟩ := earlier_rank heo l.length o hlastop e he hb
      exact hall e.on (by simpa using h3)⟩
    rw [hr] at h2; cases h2
  have hno : ∀ (x : Oper) (y : Nat → Option Bool), x ∈ l ++ [o] → Region.wanted x y = true := by
    intro x y hx
    have := (List.all_eq_true.1 hg) x hx
    unfold Region.wanted
    cases hx2 : x.guard with
    | none => rfl
    | some g => rw [hx2] at this; cases this
  have hqop : ∀ (i : Nat) (K : Act → Prop) (a : Act), i < l.length → qOp P l.toArray C i K a → qOp P (l ++ [o]).toArray C i K a := by
    intro i K a hi h
    unfold qOp at *
    rw [hget i hi]
    have hl : l.toArray[i]? = some l[i] := by simp [hi]
    rw [hl] at h ⊢
    have hm : l[i] ∈ l ++ [o] := List.mem_append_left _ (List.getElem_mem hi)
    simp only [hno _ _ hm] at h ⊢
    exact h
  intro fuel
  induction fuel with
  | zero =>
    intro listed a w hs hcl hC h
    have hall := ready_all hel (by simpa using hs) h.1
    refine ⟨fun hr => (hempty listed hs hr).elim, fun i hi => ?_⟩
    have hil : i = l.length := by
      by_cases e : i < l.length
      · have := (hlt listed hs i e).1 hi
        rw [h.1] at this; cases this
      · obtain ⟨_, o', ho', _⟩ := mem_ready.1 hi
        have := (Array.getElem?_eq_some_iff.1 ho').1
        simp at this; omega
    subst hil
    exact wpOp_mono (fun a' w' hq => ⟨hdone listed hs hall, hq⟩) (hQ a w hC h.2)
  | succ fuel ih =>
    intro listed a w hs hcl hC h
    refine ⟨fun hr => (hempty listed hs hr).elim, fun i hi => ?_⟩
    by_cases e : i < l.length
    · have hr := (hlt listed hs i e).1 hi
      have hq := h.2 i hr
      refine wpOp_of_qOp hC (fun a' w' hC' hK => ?_) (hqop i _ a e hq)
      have hcl2 : ∀ j oj, l[j]? = some oj → (listed.setIfInBounds i true).getD j false = true → ∀ e ∈ oj.after, Region.binds .any e = true → (listed.setIfInBounds i true).getD e.on false = true := by
        intro j oj hoj hj e' he' hb'
        by_cases hij : j = i
        · subst hij
          obtain ⟨_, o', ho', hall⟩ := mem_ready.1 hr
          have e1 : o' = oj := by
            have : l.toArray[j]? = some oj := by simpa using hoj
            rw [this] at ho'; injection ho' with h; exact h.symm
          subst e1
          exact set_mono (hall e' he' hb')
        · exact set_mono (hcl j oj hoj (set_true hj hij) e' he' hb')
      have := ih (listed.setIfInBounds i true) a' w' (by simpa using hs) hcl2 hC' hK
      have e2 : (listed.setIfInBounds i true).push false = (listed.push false).setIfInBounds i true := push_set (by omega)
      rw [e2] at this
      exact this
    · have hil : i = l.length := by
        obtain ⟨_, o', ho', _⟩ := mem_ready.1 hi
        have := (Array.getElem?_eq_some_iff.1 ho').1
        simp at this; omega
      subst hil
      have hall := hlast listed hs hcl hi
      have hr0 : Region.ready .any l.toArray listed = [] := by
        cases hrr : Region.ready .any l.toArray listed with
        | nil => rfl
        | cons j r =>
          exfalso
          have hj : j ∈ Region.ready .any l.toArray listed := by rw [hrr]; simp
          obtain ⟨h1, o', ho', _⟩ := mem_ready.1 hj
          have hjl : j < l.length := by simpa using (Array.getElem?_eq_some_iff.1 ho').1
          have h2 := hall j hjl
          have hjs : j < listed.size := by omega
          simp only [Array.getD, hjs, dif_pos] at h1 h2
          rw [h2] at h1; cases h1
      exact wpOp_mono (fun a' w' hq => ⟨fun _ => hq, fun i hi => by rw [hdone listed hs hall] at hi; cases hi⟩) (hQ a w hC (h.1 hr0))

theorem wp_region_last {id : Nat} {a : Act} {w : World} (ops : List Oper) (l : List Oper) (o : Oper) (hsp : ops = l ++ [o]) (hm : P.follows .mixedOrders = true) (hB : Region.lexB .any l.toArray = true) (hel : earlier l.toArray = true) (heo : earlier ops.toArray = true)
    (hre : allReach ops.toArray l.length = true) (hg : ops.all (fun x => x.guard.isNone) = true)
    (h : wpQuiet P l.toArray (fun w' => ∃ n, w' = w.drewN n) (fun a' => ∀ w', (∃ n, w' = w.drewN n) → wpOp P ops.toArray Q l.length (Q .normal) a' w') l a) : (Code.region id ops.toArray true).wp P Q a w := by
  subst hsp
  simp only [Region.lexB, Bool.and_eq_true] at hB
  refine wp_region_any hm ?_
  have h1 := wpAnyQ_lex (C := fun w' => ∃ n, w' = w.drewN n) (md := .any) hB.1 l 0 (Array.replicate l.length false) a (by simp) (by simpa using hB.2) h
  have h2 := any_last (C := fun w' => ∃ n, w' = w.drewN n) (Q := Q) hel heo hre hg (fun a w' hw hq => hq w' hw) l.length (Array.replicate l.length false) a { w with drawn := w.drawn + 1 } (by simp) (fun j oj _ hj => by simp [Array.getD] at hj) ⟨1, rfl⟩ h1
  have e : (Array.replicate l.length false).push false = Array.replicate (l ++ [o]).toArray.size false := by
    rw [← Array.replicate_succ]; simp
  rw [e] at h2
  simpa using h2
end
end Go.Proofs.YtfplgggepoaajaaGreat
