/- A region that draws its order, one goal for each operation, where one operation makes a block and another one fills it: what an operation yields may speak of the value of another one that it takes. -/
import Derived.Test.YtfplgggepoaajaaGreatRegInv
namespace Go.Proofs.YtfplgggepoaajaaGreat
open Go.RowKit
set_option linter.unusedVariables false

section
variable {P : Program} {ops : Array Oper} {Q : Exit → Act → World → Prop}

def DepsHold4 (Φ : Nat → World → Value → Value → Prop) (ptr : Nat → Nat) (w : World) (V : Nat → Value) : List Nat → Prop
  | [] => True
  | j :: r => Φ j w (V j) (V (ptr j)) ∧ DepsHold4 Φ ptr w V r
theorem DepsHold4.of {Φ : Nat → World → Value → Value → Prop} {ptr : Nat → Nat} {w : World} {V : Nat → Value} : ∀ (l : List Nat), (∀ j ∈ l, Φ j w (V j) (V (ptr j))) → DepsHold4 Φ ptr w V l
  | [], _ => trivial
  | j :: r, h => ⟨h j (List.mem_cons_self ..), DepsHold4.of r (fun k hk => h k (List.mem_cons_of_mem _ hk))⟩
theorem dataDeps_on {o : Oper} {j : Nat} (h : j ∈ dataDeps o) : ∃ e ∈ o.after, Region.binds .any e = true ∧ e.on = j := by
  obtain ⟨e, he, hej⟩ := List.mem_filterMap.1 h
  split at hej
  · rename_i hg
    injection hej with hej
    exact ⟨e, by simpa using he, by simp [Region.binds, hg], hej⟩
  · cases hej

/-- The goals, one for each operation. -/
def AllRows4 (P : Program) (ops : Array Oper) (Q : Exit → Act → World → Prop) (F : (Nat → Value) → Act) (S : World → Prop) (R : World → World → Prop) (ptr : Nat → Nat) (Φ : Nat → World → Value → Value → Prop) : Nat → List Oper → Prop
  | _, [] => True
  | i, o :: r => (∀ V w', S w' → DepsHold4 Φ ptr w' V (dataDeps o) →
      ∀ K' : Act → World → Prop, (∀ x w'', S w'' → R w' w'' → Φ i w'' x (if ptr i = i then x else V (ptr i)) → K' ((F V).put o.dst x) w'') →
        if Region.wanted o (yielded ops (F V).tmps) = true then Oper.wp P o (F V) w' K' Q else K' ((F V).put o.dst undef) w') ∧ AllRows4 P ops Q F S R ptr Φ (i + 1) r
theorem AllRows4.at {F : (Nat → Value) → Act} {S : World → Prop} {R : World → World → Prop} {ptr : Nat → Nat} {Φ : Nat → World → Value → Value → Prop} : ∀ (l : List Oper) (k i : Nat) (o : Oper), AllRows4 P ops Q F S R ptr Φ k l → l[i]? = some o →
    ∀ V w', S w' → DepsHold4 Φ ptr w' V (dataDeps o) → ops[k + i]? = some o →
      wpOp P ops Q (k + i) (fun a' w'' => ∃ x, a' = (F V).put o.dst x ∧ S w'' ∧ R w' w'' ∧ Φ (k + i) w'' x (if ptr (k + i) = k + i then x else V (ptr (k + i)))) (F V) w'
  | [], _, _, _, _, h => by simp at h
  | o' :: l, k, 0, o, h, ho => fun V w' hS hV hops => by
    simp only [List.getElem?_cons_zero, Option.some.injEq] at ho
    subst ho
    refine wpOp_step hops (fun K' hK => ?_)
    exact h.1 V w' hS hV K' (fun x w'' h1 h2 h3 => hK _ _ ⟨x, rfl, h1, h2, h3⟩)
  | o' :: l, k, i + 1, o, h, ho => by
    have := AllRows4.at l (k + 1) i o h.2 (by simpa using ho)
    rw [show k + 1 + i = k + (i + 1) by omega] at this
    exact this

def ptrOk (ops : Array Oper) (ptr : Nat → Nat) : Bool := ops.toList.zipIdx.all fun x => ptr x.2 == x.2 || (dataDeps x.1).contains (ptr x.2)
theorem ptrOk_at {ptr : Nat → Nat} (h : ptrOk ops ptr = true) {i : Nat} {o : Oper} (ho : ops[i]? = some o) : ptr i = i ∨ ptr i ∈ dataDeps o := by
  unfold ptrOk at h
  rw [List.all_eq_true] at h
  have h1 := h (o, i) (by rw [List.mem_zipIdx_iff_getElem?]; simpa using ho)
  simp only [Bool.or_eq_true, beq_iff_eq, List.contains_iff_mem] at h1
  exact h1

theorem set_true {listed : Array Bool} {i j : Nat} (h : (listed.setIfInBounds i true).getD j false = true) (hij : j ≠ i) : listed.getD j false = true := by
  simp only [Array.getD, Array.size_setIfInBounds] at h ⊢
  split at h
  · rename_i hlt
    rw [dif_pos hlt]
    have h3 : (listed.setIfInBounds i true)[j]'(by simpa using hlt) = true := h
    exact (Array.getElem_setIfInBounds_ne hlt (fun e => hij e.symm)).symm.trans h3
  · cases h
theorem set_mono {listed : Array Bool} {i j : Nat} (h : listed.getD j false = true) : (listed.setIfInBounds i true).getD j false = true := by
  simp only [Array.getD, Array.size_setIfInBounds] at h ⊢
  split at h
  · rename_i hlt
    rw [dif_pos hlt]
    by_cases hij : i = j
    · subst hij; exact Array.getElem_setIfInBounds_self (by simpa using hlt)
    · exact (Array.getElem_setIfInBounds_ne hlt hij).trans h
  · cases h

theorem wp_region_rows4 {rid : Nat} {a : Act} {w : World} (hm : P.follows .mixedOrders = true) (ds : List (Option Tmp)) (S : World → Prop) (R : World → World → Prop) (ptr : Nat → Nat) (Φ : Nat → World → Value → Value → Prop)
    (hds : ops.toList.map (·.dst) = ds) (hn : (ds.filterMap id).Nodup) (hrank : earlier ops = true) (hptr : ptrOk ops ptr = true) (F : (Nat → Value) → Act) (hF : ∀ V, putAll V 0 ds a = F V) (hΦ : ∀ i w w' v u, R w w' → Φ i w v u → Φ i w' v u)
    (h0 : a = putAll (fun i => a.tmps.getD ((ds.getD i none).getD 0) undef) 0 ds a) (hS : S w.drew)
    (hend : ∀ V w', S w' → (∀ i, i < ops.size → Φ i w' (V i) (V (ptr i))) → Q .normal (F V) w')
    (hstep : AllRows4 P ops Q F S R ptr Φ 0 ops.toList) : (Code.region rid ops true).wp P Q a w := by
  obtain rfl : (fun V => putAll V 0 ds a) = F := funext hF
  refine wp_region_inv hm (fun listed a' w' => listed.size = ops.size ∧ (∀ i o, ops[i]? = some o → listed.getD i false = true → ∀ d ∈ dataDeps o, listed.getD d false = true) ∧
    ∃ V, a' = putAll V 0 ds a ∧ S w' ∧ ∀ i, listed.getD i false = true → Φ i w' (V i) (V (ptr i))) (fun i => i) (earlier_rank hrank) ?_ ?_ ?_
  · refine ⟨by simp, fun i o ho h => ?_, _, h0, hS, fun i hi => ?_⟩
    · simp [Array.getD] at h
    · simp [Array.getD] at hi
  · rintro i o ho listed a' w' h1 h2 ⟨hls, hcl, V, rfl, hSw, hV⟩
    have hdep : ∀ d ∈ dataDeps o, listed.getD d false = true := fun d hd => by
      obtain ⟨e, he, hb, rfl⟩ := dataDeps_on hd
      exact h2 e he hb
    have hlf : listed.getD i false = false := by
      have hil : i < listed.size := by rw [hls]; exact (Array.getElem?_eq_some_iff.1 ho).1
      simp only [Array.getD, hil, dif_pos] at h1 ⊢
      exact h1
    have := AllRows4.at ops.toList 0 i o hstep (by simpa using ho) V w' hSw (DepsHold4.of _ (fun j hj => hV j (hdep j hj))) (by rw [Nat.zero_add]; exact ho)
    rw [Nat.zero_add] at this
    refine wpOp_mono ?_ this
    rintro a'' w'' ⟨x, rfl, hS2, hR, hx⟩
    have hdst : ds[i]? = some o.dst := by
      rw [← hds, List.getElem?_map]
      have : ops.toList[i]? = some o := by simpa using ho
      rw [this]; rfl
    have hself : i ∉ dataDeps o := fun h => by rw [hdep i h] at hlf; cases hlf
    refine ⟨by simpa using hls, fun j oj hoj hj d hd => ?_, _, putAll_upd ds 0 i a hn hdst, hS2, fun j hj => ?_⟩
    · by_cases hij : j = i
      · subst hij
        have e : oj = o := by rw [ho] at hoj; injection hoj with h; exact h.symm
        subst e
        exact set_mono (hdep d hd)
      · exact set_mono (hcl j oj hoj (set_true hj hij) d hd)
    · by_cases hij : j = i
      · subst hij
        have e1 : (if j = 0 + j then x else V j) = x := if_pos (by omega)
        simp only [e1]
        have e2 : (if ptr j = 0 + j then x else V (ptr j)) = (if ptr j = j then x else V (ptr j)) := by rw [Nat.zero_add]
        simp only [e2]
        exact hx
      · have hjl := set_true hj hij
        have e1 : (if j = 0 + i then x else V j) = V j := if_neg (by omega)
        have hjs : j < ops.size := by
          rw [← hls]
          by_cases hlt : j < listed.size
          · exact hlt
          · simp [Array.getD, hlt] at hjl
        have hp : ptr j ≠ i := by
          rcases ptrOk_at hptr (i := j) (o := ops[j]) (by simp [hjs]) with h | h
          · rw [h]; exact hij
          · intro e
            have := hcl j ops[j] (by simp [hjs]) hjl _ h
            rw [e] at this
            rw [this] at hlf; cases hlf
        have e2 : (if ptr j = 0 + i then x else V (ptr j)) = V (ptr j) := if_neg (by omega)
        simp only [e1, e2]
        exact hΦ _ _ _ _ _ hR (hV j hjl)
  · rintro listed a' w' hall ⟨_, _, V, rfl, hSw, hV⟩
    exact hend V w' hSw (fun i hi => hV i (hall i hi))
end

/-- As it was, or filled. -/
structure FrC (base : Nat) (C : Obj) (w w' : World) : Prop where
  size : w.heap.size ≤ w'.heap.size
  block : ∀ k, k < w.heap.size → w'.heap[k]? = w.heap[k]? ∨ (base ≤ k ∧ w'.heap[k]? = some C)
theorem FrC.of {base : Nat} {C : Obj} {w w' : World} (h : Fr0 w w') : FrC base C w w' := ⟨h.size, fun k hk => .inl (h.block k hk (fun x => x))⟩
/-- A value that is known; a block that was made (ptr: itself), zero or filled; or the block of another value is filled. -/
def PhiC (base : Nat) (X : Nat → Value) (mk st : Nat) (Z C : Obj) (i : Nat) (w : World) (v u : Value) : Prop :=
  if i = mk then ∃ b, v = .pointer (some ⟨b, 0, none⟩) ∧ base ≤ b ∧ (w.heap[b]? = some Z ∨ w.heap[b]? = some C)
  else if i = st then ∃ b, u = .pointer (some ⟨b, 0, none⟩) ∧ base ≤ b ∧ w.heap[b]? = some C
  else v = X i
theorem PhiC_keep (base : Nat) (X : Nat → Value) (mk st : Nat) (Z C : Obj) : ∀ i w w' v u, FrC base C w w' → PhiC base X mk st Z C i w v u → PhiC base X mk st Z C i w' v u := by
  intro i w w' v u hf h
  unfold PhiC at *
  by_cases h1 : i = mk
  · rw [if_pos h1] at h ⊢
    obtain ⟨b, e, hb, h⟩ := h
    have hlt : b < w.heap.size := h.elim lt_of_block lt_of_block
    refine ⟨b, e, hb, ?_⟩
    rcases hf.block b hlt with h3 | ⟨_, h3⟩
    · rw [h3]; exact h
    · exact .inr h3
  · rw [if_neg h1] at h ⊢
    by_cases h2 : i = st
    · rw [if_pos h2] at h ⊢
      obtain ⟨b, e, hb, h⟩ := h
      refine ⟨b, e, hb, ?_⟩
      rcases hf.block b (lt_of_block h) with h3 | ⟨_, h3⟩
      · rw [h3]; exact h
      · exact h3
    · rw [if_neg h2] at h ⊢
      exact h

theorem store4_heap {w : World} {b : Nat} {t : TypeId} {a0 a1 a2 a3 x0 x1 x2 x3 : Value} (hb : w.heap[b]? = some (.cells #[a0, a1, a2, a3] t)) :
    ((((w.setCell ⟨b, 0, none⟩ x0).setCell ⟨b, 1, none⟩ x1).setCell ⟨b, 2, none⟩ x2).setCell ⟨b, 3, none⟩ x3).heap[b]? = some (.cells #[x0, x1, x2, x3] t) := by
  have := heap_setCell_same (heap_setCell_same (heap_setCell_same (heap_setCell_same hb 0 x0) 1 x1) 2 x2) 3 x3
  simpa using this
theorem FrC.store4 {base b : Nat} {t : TypeId} {w : World} {a0 a1 a2 a3 x0 x1 x2 x3 : Value} (hbase : base ≤ b) (hb : w.heap[b]? = some (.cells #[a0, a1, a2, a3] t)) :
    FrC base (.cells #[x0, x1, x2, x3] t) w ((((w.setCell ⟨b, 0, none⟩ x0).setCell ⟨b, 1, none⟩ x1).setCell ⟨b, 2, none⟩ x2).setCell ⟨b, 3, none⟩ x3) := by
  refine ⟨by simp [World.setCell], fun k hk => ?_⟩
  by_cases e : k = b
  · subst e
    exact .inr ⟨hbase, store4_heap hb⟩
  · left
    rw [heap_setCell_other _ _ _ _ (by exact e), heap_setCell_other _ _ _ _ (by exact e), heap_setCell_other _ _ _ _ (by exact e), heap_setCell_other _ _ _ _ (by exact e)]
end Go.Proofs.YtfplgggepoaajaaGreat
