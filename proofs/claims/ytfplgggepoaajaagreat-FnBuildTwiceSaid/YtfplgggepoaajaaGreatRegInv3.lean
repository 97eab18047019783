/- A region that draws its order, one goal for each operation, where an operation reads a slot that a later one sets. -/
import Derived.Test.YtfplgggepoaajaaGreatRegInv2
namespace Go.Proofs.YtfplgggepoaajaaGreat
open Go.RowKit
set_option linter.unusedVariables false

section
variable {P : Program} {ops : Array Oper} {Q : Exit → Act → World → Prop}

/-- Operation j comes behind operation i in every order. -/
def reach (ops : Array Oper) (i : Nat) : Nat → Nat → Bool
  | 0, _ => false
  | f + 1, j => match ops[j]? with
    | none => false
    | some o => o.after.toList.any fun e => Region.binds .any e && (e.on == i || reach ops i f e.on)
theorem reach_listed {listed : Array Bool} {i : Nat} (hcl : ∀ j o, ops[j]? = some o → listed.getD j false = true → ∀ e ∈ o.after, Region.binds .any e = true → listed.getD e.on false = true) :
    ∀ f j, reach ops i f j = true → listed.getD j false = true → listed.getD i false = true
  | 0, _, h, _ => by simp [reach] at h
  | f + 1, j, h, hl => by
    unfold reach at h
    cases ho : ops[j]? with
    | none => rw [ho] at h; simp at h
    | some o =>
      rw [ho] at h
      simp only [List.any_eq_true, Bool.and_eq_true, Bool.or_eq_true, beq_iff_eq] at h
      obtain ⟨e, he, hb, hor⟩ := h
      have hel := hcl j o ho hl e (by simpa using he) hb
      rcases hor with h | h
      · rw [← h]; exact hel
      · exact reach_listed hcl f e.on h hel
/-- The goals, one for each operation. -/
def AllRows5 (P : Program) (ops : Array Oper) (Q : Exit → Act → World → Prop) (F : (Nat → Value) → Act) (V0 : Nat → Value) (S : World → Prop) (R : World → World → Prop) (Φ : Nat → World → Value → Prop) : Nat → List Oper → Prop
  | _, [] => True
  | i, o :: r => (∀ V w', S w' → DepsHold Φ w' V (dataDeps o) → (∀ j, reach ops i ops.size j = true → V j = V0 j) →
      ∀ K' : Act → World → Prop, (∀ x w'', S w'' → R w' w'' → Φ i w'' x → K' ((F V).put o.dst x) w'') →
        if Region.wanted o (yielded ops (F V).tmps) = true then Oper.wp P o (F V) w' K' Q else K' ((F V).put o.dst undef) w') ∧ AllRows5 P ops Q F V0 S R Φ (i + 1) r
theorem AllRows5.at {F : (Nat → Value) → Act} {V0 : Nat → Value} {S : World → Prop} {R : World → World → Prop} {Φ : Nat → World → Value → Prop} : ∀ (l : List Oper) (k i : Nat) (o : Oper), AllRows5 P ops Q F V0 S R Φ k l → l[i]? = some o →
    ∀ V w', S w' → (∀ e ∈ o.after, Region.binds .any e = true → Φ e.on w' (V e.on)) → (∀ j, reach ops (k + i) ops.size j = true → V j = V0 j) → ops[k + i]? = some o →
      wpOp P ops Q (k + i) (fun a' w'' => ∃ x, a' = (F V).put o.dst x ∧ S w'' ∧ R w' w'' ∧ Φ (k + i) w'' x) (F V) w'
  | [], _, _, _, _, h => by simp at h
  | o' :: l, k, 0, o, h, ho => fun V w' hS hV hold hops => by
    simp only [List.getElem?_cons_zero, Option.some.injEq] at ho
    subst ho
    refine wpOp_step hops (fun K' hK => ?_)
    exact h.1 V w' hS (dataDeps_of hV) hold K' (fun x w'' h1 h2 h3 => hK _ _ ⟨x, rfl, h1, h2, h3⟩)
  | o' :: l, k, i + 1, o, h, ho => by
    have := AllRows5.at l (k + 1) i o h.2 (by simpa using ho)
    rw [show k + 1 + i = k + (i + 1) by omega] at this
    exact this
theorem wp_region_rows5 {rid : Nat} {a : Act} {w : World} (hm : P.follows .mixedOrders = true) (ds : List (Option Tmp)) (S : World → Prop) (R : World → World → Prop) (Φ : Nat → World → Value → Prop)
    (hds : ops.toList.map (·.dst) = ds) (hn : (ds.filterMap id).Nodup) (hrank : earlier ops = true) (F : (Nat → Value) → Act) (hF : ∀ V, putAll V 0 ds a = F V) (hΦ : ∀ i w w' v, R w w' → Φ i w v → Φ i w' v)
    (h0 : a = putAll (fun i => a.tmps.getD ((ds.getD i none).getD 0) undef) 0 ds a) (hS : S w.drew)
    (hend : ∀ V w', S w' → (∀ i, i < ops.size → Φ i w' (V i)) → Q .normal (F V) w')
    (hstep : AllRows5 P ops Q F (fun i => a.tmps.getD ((ds.getD i none).getD 0) undef) S R Φ 0 ops.toList) : (Code.region rid ops true).wp P Q a w := by
  obtain rfl : (fun V => putAll V 0 ds a) = F := funext hF
  refine wp_region_inv hm (fun listed a' w' => listed.size = ops.size ∧ (∀ j o, ops[j]? = some o → listed.getD j false = true → ∀ e ∈ o.after, Region.binds .any e = true → listed.getD e.on false = true) ∧
    ∃ V, a' = putAll V 0 ds a ∧ S w' ∧ (∀ i, listed.getD i false = false → V i = a.tmps.getD ((ds.getD i none).getD 0) undef) ∧ ∀ i, listed.getD i false = true → Φ i w' (V i)) (fun i => i) (earlier_rank hrank) ?_ ?_ ?_
  · refine ⟨by simp, fun i o ho h => ?_, _, h0, hS, fun i _ => rfl, fun i hi => ?_⟩
    · simp [Array.getD] at h
    · simp [Array.getD] at hi
  · rintro i o ho listed a' w' h1 h2 ⟨hls, hcl, V, rfl, hSw, hold, hV⟩
    have hil : i < listed.size := by rw [hls]; exact (Array.getElem?_eq_some_iff.1 ho).1
    have hlf : listed.getD i false = false := by
      simp only [Array.getD, hil, dif_pos] at h1 ⊢
      exact h1
    have := AllRows5.at ops.toList 0 i o hstep (by simpa using ho) V w' hSw (fun e he hb => hV _ (h2 e he hb)) (fun j hj => hold j (by
      rw [Nat.zero_add] at hj
      cases hjl : listed.getD j false with
      | false => rfl
      | true => rw [reach_listed hcl _ _ hj hjl] at hlf; cases hlf)) (by rw [Nat.zero_add]; exact ho)
    rw [Nat.zero_add] at this
    refine wpOp_mono ?_ this
    rintro a'' w'' ⟨x, rfl, hS2, hR, hx⟩
    have hdst : ds[i]? = some o.dst := by
      rw [← hds, List.getElem?_map]
      have : ops.toList[i]? = some o := by simpa using ho
      rw [this]; rfl
    refine ⟨by simpa using hls, fun j oj hoj hj e he hb => ?_, _, putAll_upd ds 0 i a hn hdst, hS2, fun j hj => ?_, fun j hj => ?_⟩
    · by_cases hij : j = i
      · subst hij
        have e1 : oj = o := by rw [ho] at hoj; injection hoj with h; exact h.symm
        subst e1
        exact set_mono (h2 e he hb)
      · exact set_mono (hcl j oj hoj (set_true hj hij) e he hb)
    · by_cases hij : j = i
      · subst hij
        exfalso
        simp [Array.getD, hil] at hj
      · have e1 : (if j = 0 + i then x else V j) = V j := if_neg (by omega)
        simp only [e1]
        refine hold j ?_
        cases hjl : listed.getD j false with
        | false => rfl
        | true => rw [set_mono hjl] at hj; cases hj
    · by_cases hij : j = i
      · subst hij; simpa using hx
      · have e1 : (if j = 0 + i then x else V j) = V j := if_neg (by omega)
        simp only [e1]
        exact hΦ _ _ _ _ hR (hV j (set_true hj hij))
  · rintro listed a' w' hall ⟨_, _, V, rfl, hSw, _, hV⟩
    exact hend V w' hSw (fun i hi => hV i (hall i hi))
end
end Go.Proofs.YtfplgggepoaajaaGreat
