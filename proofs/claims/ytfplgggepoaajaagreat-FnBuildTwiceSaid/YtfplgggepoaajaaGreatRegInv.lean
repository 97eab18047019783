/- A region that draws its order, by an invariant: one goal for each operation, none for each order. What each operation yields is said by a relation on the world that later operations keep. Over any program. -/
import Derived.OrdersHeld
import Derived.RegionTactic
import Derived.WalkKit
import Derived.Test.YtfplgggepoaajaaGreatLaws
import Derived.Test.YtfplgggepoaajaaGreatProg
namespace Go.Proofs.YtfplgggepoaajaaGreat
open Go.RowKit
set_option linter.unusedVariables false

section
variable {P : Program} {ops : Array Oper} {Q : Exit → Act → World → Prop}

theorem any_inv (I : Array Bool → Act → World → Prop) (rank : Nat → Nat)
    (hrank : ∀ i o, ops[i]? = some o → ∀ e ∈ o.after, Region.binds .any e = true → e.on < ops.size ∧ rank e.on < rank i)
    (hstep : ∀ i o, ops[i]? = some o → ∀ listed a w, listed.getD i true = false → (∀ e ∈ o.after, Region.binds .any e = true → listed.getD e.on false = true) → I listed a w → wpOp P ops Q i (I (listed.setIfInBounds i true)) a w)
    (hend : ∀ listed a w, (∀ i, i < ops.size → listed.getD i false = true) → I listed a w → Q .normal a w) :
    ∀ (fuel : Nat) (listed : Array Bool) (a : Act) (w : World), listed.size = ops.size → listed.toList.count false ≤ fuel → I listed a w → wpAny P .any ops Q fuel listed a w := by
  have hall : ∀ listed : Array Bool, listed.size = ops.size → Region.ready .any ops listed = [] → ∀ i, i < ops.size → listed.getD i false = true := by
    intro listed hs hr i hi
    -- the least in rank that is not listed would be ready
    have key : ∀ n i, rank i < n → i < ops.size → listed.getD i false = true := by
      intro n
      induction n with
      | zero => intro i h; omega
      | succ n ih =>
        intro i hn hi
        have hil : i < listed.size := by omega
        cases hb : listed[i] with
        | true => simp [Array.getD, hil, hb]
        | false =>
          have hready : i ∈ Region.ready .any ops listed := mem_ready.2 ⟨by simp [Array.getD, hil, hb], ops[i], by simp [hi], fun e he hbd => by
            obtain ⟨h1, h2⟩ := hrank i ops[i] (by simp [hi]) e he hbd
            exact ih e.on (by omega) h1⟩
          rw [hr] at hready
          cases hready
    exact key (rank i + 1) i (by omega) hi
  intro fuel
  induction fuel with
  | zero =>
    intro listed a w hs hc hI
    have hno : Region.ready .any ops listed = [] := by
      cases hr : Region.ready .any ops listed with
      | nil => rfl
      | cons i r =>
        have hi : i ∈ Region.ready .any ops listed := by rw [hr]; simp
        obtain ⟨h1, o, ho, _⟩ := mem_ready.1 hi
        have hil : i < listed.size := by rw [hs]; exact (Array.getElem?_eq_some_iff.1 ho).1
        have hm : false ∈ listed.toList := by
          simp only [Array.getD, hil, dif_pos] at h1
          rw [← h1]; simp
        have := List.count_pos_iff.2 hm
        omega
    exact ⟨hno, hend listed a w (hall listed hs hno) hI⟩
  | succ fuel ih =>
    intro listed a w hs hc hI
    refine ⟨fun hno => hend listed a w (hall listed hs hno) hI, fun i hi => ?_⟩
    obtain ⟨h1, o, ho, h2⟩ := mem_ready.1 hi
    have hil : i < listed.size := by rw [hs]; exact (Array.getElem?_eq_some_iff.1 ho).1
    refine wpOp_mono (fun a' w' hI' => ih (listed.setIfInBounds i true) a' w' (by simpa using hs) ?_ hI') (hstep i o ho listed a w h1 h2 hI)
    simp only [Array.getD, hil, dif_pos] at h1
    have hcs : (listed.setIfInBounds i true).toList.count false < listed.toList.count false := by
      rw [Array.toList_setIfInBounds]
      have hl : i < listed.toList.length := by simpa using hil
      have h3 : listed.toList[i] = false := h1
      rw [List.set_eq_take_append_cons_drop, if_pos hl]
      conv => rhs; rw [← List.take_append_drop i listed.toList, List.drop_eq_getElem_cons hl, h3]
      simp [List.count_append]
    omega

theorem wp_region_inv {rid : Nat} {a : Act} {w : World} (hm : P.follows .mixedOrders = true) (I : Array Bool → Act → World → Prop) (rank : Nat → Nat)
    (hrank : ∀ i o, ops[i]? = some o → ∀ e ∈ o.after, Region.binds .any e = true → e.on < ops.size ∧ rank e.on < rank i)
    (h0 : I (Array.replicate ops.size false) a w.drew)
    (hstep : ∀ i o, ops[i]? = some o → ∀ listed a w, listed.getD i true = false → (∀ e ∈ o.after, Region.binds .any e = true → listed.getD e.on false = true) → I listed a w → wpOp P ops Q i (I (listed.setIfInBounds i true)) a w)
    (hend : ∀ listed a w, (∀ i, i < ops.size → listed.getD i false = true) → I listed a w → Q .normal a w) : (Code.region rid ops true).wp P Q a w :=
  wp_region_any hm (any_inv I rank hrank hstep hend ops.size _ a _ (by simp) (by simp) h0)

/-! What the operations yield, as a row of values. -/
def putAll (V : Nat → Value) : Nat → List (Option Tmp) → Act → Act
  | _, [], a => a
  | i, d :: ds, a => putAll V (i + 1) ds (a.put d (V i))
theorem put_same (a : Act) (d : Option Tmp) (x y : Value) : (a.put d x).put d y = a.put d y := by
  cases d with
  | none => rfl
  | some t => simp [Act.put]
theorem putAll_congr {V V' : Nat → Value} : ∀ (ds : List (Option Tmp)) (k : Nat) (a : Act), (∀ n, k ≤ n → V n = V' n) → putAll V k ds a = putAll V' k ds a
  | [], _, _, _ => rfl
  | d :: ds, k, a, h => by
    show putAll V (k + 1) ds _ = putAll V' (k + 1) ds _
    rw [h k (Nat.le_refl _), putAll_congr ds (k + 1) _ (fun n hn => h n (by omega))]
theorem put_swap (a : Act) (d d' : Option Tmp) (x y : Value) (h : ∀ t, d = some t → d' ≠ some t) : (a.put d x).put d' y = (a.put d' y).put d x := by
  cases d with
  | none => rfl
  | some t =>
    cases d' with
    | none => rfl
    | some t' =>
      have : t ≠ t' := fun e => h t rfl (by rw [e])
      simp only [Act.put]
      rw [Array.setIfInBounds_comm _ _ this]
theorem putAll_put {V : Nat → Value} {d : Option Tmp} {x : Value} : ∀ (ds : List (Option Tmp)) (k : Nat) (a : Act), (∀ t, d = some t → some t ∉ ds) → (putAll V k ds a).put d x = putAll V k ds (a.put d x)
  | [], _, _, _ => rfl
  | d' :: ds, k, a, h => by
    show (putAll V (k + 1) ds _).put d x = putAll V (k + 1) ds _
    rw [putAll_put ds (k + 1) _ (fun t ht hm => h t ht (List.mem_cons_of_mem _ hm)), put_swap _ d' d]
    intro t ht hd
    exact h t hd (by rw [← ht]; exact List.mem_cons_self ..)
theorem putAll_upd {V : Nat → Value} {d : Option Tmp} {x : Value} : ∀ (ds : List (Option Tmp)) (k j : Nat) (a : Act), (ds.filterMap id).Nodup → ds[j]? = some d → (putAll V k ds a).put d x = putAll (fun n => if n = k + j then x else V n) k ds a
  | [], _, _, _, _, h => by simp at h
  | d' :: ds, k, 0, a, hn, h => by
    simp only [List.getElem?_cons_zero, Option.some.injEq] at h
    subst h
    show (putAll V (k + 1) ds (a.put d' (V k))).put d' x = putAll (fun n => if n = k + 0 then x else V n) (k + 1) ds (a.put d' (if k = k + 0 then x else V k))
    rw [putAll_put, put_same, if_pos (Nat.add_zero k).symm]
    · exact putAll_congr _ _ _ (fun n hn => by rw [if_neg (by omega)])
    · intro t ht hm
      subst ht
      simp only [List.filterMap_cons, id] at hn
      exact (List.nodup_cons.1 hn).1 (List.mem_filterMap.2 ⟨some t, hm, rfl⟩)
  | d' :: ds, k, j + 1, a, hn, h => by
    have hn' : (ds.filterMap id).Nodup := by
      cases d' with
      | none => simpa using hn
      | some t => simp only [List.filterMap_cons, id] at hn; exact (List.nodup_cons.1 hn).2
    show (putAll V (k + 1) ds (a.put d' (V k))).put d x = putAll (fun n => if n = k + (j + 1) then x else V n) (k + 1) ds (a.put d' (if k = k + (j + 1) then x else V k))
    rw [putAll_upd ds (k + 1) j _ hn' (by simpa using h), if_neg (by omega)]
    exact putAll_congr _ _ _ (fun n _ => by rw [show k + 1 + j = k + (j + 1) by omega])

/-- A region that draws its order: every operation yields what Φ says of it, in whatever order; S holds throughout, and what was yielded keeps (R). -/
theorem wp_region_rows {rid : Nat} {a : Act} {w : World} (hm : P.follows .mixedOrders = true) (ds : List (Option Tmp)) (hds : ops.toList.map (·.dst) = ds) (hn : (ds.filterMap id).Nodup)
    (rank : Nat → Nat) (hrank : ∀ i o, ops[i]? = some o → ∀ e ∈ o.after, Region.binds .any e = true → e.on < ops.size ∧ rank e.on < rank i)
    (S : World → Prop) (R : World → World → Prop) (Φ : Nat → World → Value → Prop) (hΦ : ∀ i w w' v, R w w' → Φ i w v → Φ i w' v)
    (V0 : Nat → Value) (h0 : a = putAll V0 0 ds a) (hS : S w.drew)
    (hstep : ∀ i o, ops[i]? = some o → ∀ V w', S w' → (∀ e ∈ o.after, Region.binds .any e = true → Φ e.on w' (V e.on)) →
      wpOp P ops Q i (fun a' w'' => ∃ x, a' = (putAll V 0 ds a).put o.dst x ∧ S w'' ∧ R w' w'' ∧ Φ i w'' x) (putAll V 0 ds a) w')
    (hend : ∀ V w', S w' → (∀ i, i < ops.size → Φ i w' (V i)) → Q .normal (putAll V 0 ds a) w') : (Code.region rid ops true).wp P Q a w := by
  refine wp_region_inv hm (fun listed a' w' => listed.size = ops.size ∧ ∃ V, a' = putAll V 0 ds a ∧ S w' ∧ ∀ i, listed.getD i false = true → Φ i w' (V i)) rank hrank ?_ ?_ ?_
  · refine ⟨by simp, V0, h0, hS, fun i hi => ?_⟩
    simp [Array.getD] at hi
  · rintro i o ho listed a' w' h1 h2 ⟨hls, V, rfl, hSw, hV⟩
    refine wpOp_mono ?_ (hstep i o ho V w' hSw (fun e he hb => hV _ (h2 e he hb)))
    rintro a'' w'' ⟨x, rfl, hS2, hR, hx⟩
    have hd : ds[i]? = some o.dst := by
      rw [← hds, List.getElem?_map]
      have : ops.toList[i]? = some o := by simpa using ho
      rw [this]; rfl
    refine ⟨by simpa using hls, _, putAll_upd ds 0 i a hn hd, hS2, fun j hj => ?_⟩
    by_cases hij : j = i
    · subst hij; simpa using hx
    · have e : (if j = 0 + i then x else V j) = V j := if_neg (by omega)
      simp only [e]
      refine hΦ _ _ _ _ hR (hV j ?_)
      have hne : i ≠ j := fun e => hij e.symm
      simp only [Array.getD, Array.size_setIfInBounds] at hj ⊢
      split at hj
      · rename_i hlt
        rw [dif_pos hlt]
        have h3 : (listed.setIfInBounds i true)[j]'(by simpa using hlt) = true := hj
        exact (Array.getElem_setIfInBounds_ne hlt hne).symm.trans h3
      · cases hj
  · rintro listed a' w' hall ⟨_, V, rfl, hSw, hV⟩
    exact hend V w' hSw (fun i hi => hV i (hall i hi))

/-- The operations whose values an operation takes. -/
def dataDeps (o : Oper) : List Nat := o.after.toList.filterMap fun e => match e.ground with | .data => some e.on | _ => none
def DepsHold (Φ : Nat → World → Value → Prop) (w : World) (V : Nat → Value) : List Nat → Prop
  | [] => True
  | j :: r => Φ j w (V j) ∧ DepsHold Φ w V r
theorem DepsHold.of {Φ : Nat → World → Value → Prop} {w : World} {V : Nat → Value} : ∀ (l : List Nat), (∀ j ∈ l, Φ j w (V j)) → DepsHold Φ w V l
  | [], _ => trivial
  | j :: r, h => ⟨h j (List.mem_cons_self ..), DepsHold.of r (fun k hk => h k (List.mem_cons_of_mem _ hk))⟩
theorem dataDeps_of {Φ : Nat → World → Value → Prop} {w : World} {V : Nat → Value} {o : Oper} (h : ∀ e ∈ o.after, Region.binds .any e = true → Φ e.on w (V e.on)) : DepsHold Φ w V (dataDeps o) := by
  refine DepsHold.of _ (fun j hj => ?_)
  obtain ⟨e, he, hej⟩ := List.mem_filterMap.1 hj
  split at hej
  · rename_i hg
    injection hej with hej
    subst hej
    exact h e (by simpa using he) (by simp [Region.binds, hg])
  · cases hej
/-- The goals, one for each operation. -/
def AllRows (P : Program) (ops : Array Oper) (Q : Exit → Act → World → Prop) (F : (Nat → Value) → Act) (S : World → Prop) (R : World → World → Prop) (Φ : Nat → World → Value → Prop) : Nat → List Oper → Prop
  | _, [] => True
  | i, o :: r => (∀ V w', S w' → DepsHold Φ w' V (dataDeps o) →
      ∀ K' : Act → World → Prop, (∀ x w'', S w'' → R w' w'' → Φ i w'' x → K' ((F V).put o.dst x) w'') →
        if Region.wanted o (yielded ops (F V).tmps) = true then Oper.wp P o (F V) w' K' Q else K' ((F V).put o.dst undef) w') ∧ AllRows P ops Q F S R Φ (i + 1) r
theorem AllRows.at {F : (Nat → Value) → Act} {S : World → Prop} {R : World → World → Prop} {Φ : Nat → World → Value → Prop} : ∀ (l : List Oper) (k i : Nat) (o : Oper), AllRows P ops Q F S R Φ k l → l[i]? = some o →
    ∀ V w', S w' → (∀ e ∈ o.after, Region.binds .any e = true → Φ e.on w' (V e.on)) → ops[k + i]? = some o →
      wpOp P ops Q (k + i) (fun a' w'' => ∃ x, a' = (F V).put o.dst x ∧ S w'' ∧ R w' w'' ∧ Φ (k + i) w'' x) (F V) w'
  | [], _, _, _, _, h => by simp at h
  | o' :: l, k, 0, o, h, ho => fun V w' hS hV hops => by
    simp only [List.getElem?_cons_zero, Option.some.injEq] at ho
    subst ho
    refine wpOp_step hops (fun K' hK => ?_)
    exact h.1 V w' hS (dataDeps_of hV) K' (fun x w'' h1 h2 h3 => hK _ _ ⟨x, rfl, h1, h2, h3⟩)
  | o' :: l, k, i + 1, o, h, ho => by
    have := AllRows.at l (k + 1) i o h.2 (by simpa using ho)
    rw [show k + 1 + i = k + (i + 1) by omega] at this
    exact this
/-- Every edge leads to an earlier operation. -/
def earlier (ops : Array Oper) : Bool := ops.toList.zipIdx.all fun x => x.1.after.all fun e => !Region.binds .any e || decide (e.on < x.2)
theorem earlier_rank (h : earlier ops = true) : ∀ i o, ops[i]? = some o → ∀ e ∈ o.after, Region.binds .any e = true → e.on < ops.size ∧ e.on < i := by
  intro i o ho e he hb
  have hi := (Array.getElem?_eq_some_iff.1 ho).1
  unfold earlier at h
  rw [List.all_eq_true] at h
  have h1 := h (o, i) (by rw [List.mem_zipIdx_iff_getElem?]; simpa using ho)
  simp only [Array.all_eq_true] at h1
  obtain ⟨j, hj, rfl⟩ := Array.getElem_of_mem he
  have h2 := h1 j hj
  simp only [hb, Bool.not_true, Bool.false_or, decide_eq_true_eq] at h2
  omega
theorem wp_region_rows2 {rid : Nat} {a : Act} {w : World} (hm : P.follows .mixedOrders = true) (ds : List (Option Tmp)) (S : World → Prop) (R : World → World → Prop) (Φ : Nat → World → Value → Prop)
    (hds : ops.toList.map (·.dst) = ds) (hn : (ds.filterMap id).Nodup) (hrank : earlier ops = true) (F : (Nat → Value) → Act) (hF : ∀ V, putAll V 0 ds a = F V) (hΦ : ∀ i w w' v, R w w' → Φ i w v → Φ i w' v)
    (h0 : a = putAll (fun i => a.tmps.getD ((ds.getD i none).getD 0) undef) 0 ds a) (hS : S w.drew)
    (hend : ∀ V w', S w' → (∀ i, i < ops.size → Φ i w' (V i)) → Q .normal (F V) w')
    (hstep : AllRows P ops Q F S R Φ 0 ops.toList) : (Code.region rid ops true).wp P Q a w := by
  obtain rfl : (fun V => putAll V 0 ds a) = F := funext hF
  exact wp_region_rows hm ds hds hn (fun i => i) (earlier_rank hrank) S R Φ hΦ _ h0 hS (fun i o ho V w' h1 h2 => by
    have := AllRows.at ops.toList 0 i o hstep (by simpa using ho) V w' h1 h2 (by rw [Nat.zero_add]; exact ho)
    rwa [Nat.zero_add] at this) hend
end

/-- A slice of zero bytes that was made in the region, or a value that is known. -/
def PhiZ (blk : Nat → Option Nat) (X : Nat → Value) (i : Nat) (w : World) (v : Value) : Prop :=
  match blk i with
  | some n => ∃ b, v = .slice (some ⟨b, 0, none⟩) n n ∧ w.heap[b]? = some (.cells (cellsOf (List.replicate n 0)).toArray 5)
  | none => v = X i
theorem PhiZ_keep (blk : Nat → Option Nat) (X : Nat → Value) : ∀ i w w' v, Fr0 w w' → PhiZ blk X i w v → PhiZ blk X i w' v := by
  intro i w w' v hf h
  unfold PhiZ at *
  split
  · rename_i n hn
    rw [hn] at h
    obtain ⟨b, e, hb⟩ := h
    exact ⟨b, e, (hf.block b (lt_of_block hb) (fun x => x)).trans hb⟩
  · rename_i hn
    rw [hn] at h
    exact h
end Go.Proofs.YtfplgggepoaajaaGreat
