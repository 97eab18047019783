/- The Builder's assertions, Slot, and offsets that are put in front. -/
import Derived.Test.YtfplgggepoaajaaGreatNewB
import Derived.WalkSmall
import Derived.Deep.RegionHeld
namespace Go.Proofs.YtfplgggepoaajaaGreat
open Go.RowKit
set_option linter.unusedVariables false
set_option linter.unusedSimpArgs false

theorem quiet_drew {P : Program} {f : FuncId} {args : Array Value} {w : World} {n : Nat} {v : Value} (h : Calls P f args (w.drewN n) fun e w' => e = .returned v ∧ ∃ m, w' = (w.drewN n).drewN m) :
    Calls P f args (w.drewN n) fun e w'' => e = .returned v ∧ ∃ m, w'' = w.drewN m := h.mono fun _ _ h => by
  obtain ⟨h1, m, rfl⟩ := h
  exact ⟨h1, n + m, World.drewN_drewN _ _ _⟩
/-- A panic, or a value and a state. -/
def BRes (w : World) (b : Nat) (F : List Nat) (o : Option (Value × BSt)) : Ending → World → Prop := fun e w' =>
  match o with
  | none => Falls2 (fun k => k ∈ F) w e w'
  | some (v, st') => e = .returned v ∧ ∃ F', BRep w' b F' st' ∧ Adv w w' F F'
theorem BRep.drewN {w : World} {b : Nat} {F : List Nat} {st : BSt} (h : BRep w b F st) (n : Nat) : BRep (w.drewN n) b F st := by
  obtain ⟨Y, V, G, M, r, c, rfl, hb, ho⟩ := h
  refine ⟨Y, V, G, M, r, c, rfl, hb.drewN n, ho.fr (S := fun _ => False) ((Fr.refl _ w).drewN n) (fun _ h => h) (fun h => h) (fun _ h => h)⟩
theorem Adv.of_drewN {w w' : World} {F F' : List Nat} {n : Nat} (h : Adv (w.drewN n) w' F F') : Adv w w' F F' := ((Adv.refl w F).drewN n).trans h
theorem BRep.mem {w : World} {b : Nat} {F : List Nat} {st : BSt} (h : BRep w b F st) : b ∈ F := by
  obtain ⟨Y, V, G, M, r, c, rfl, hb, ho⟩ := h
  simp
theorem BRep.cells {w : World} {b : Nat} {F : List Nat} {st : BSt} (h : BRep w b F st) : w.cell? ⟨b, 6, none⟩ = some (.bool st.nested) ∧ w.cell? ⟨b, 7, none⟩ = some (.bool st.fin) ∧ w.cell? ⟨b, 3, none⟩ = some (.int .u32 st.oend) ∧ w.cell? ⟨b, 5, none⟩ = some (.int .u32 st.m.room) ∧ w.cell? ⟨b, 1, none⟩ = some (.int .i64 st.m.least) := by
  obtain ⟨Y, V, G, M, r, c, rfl, hb, ho⟩ := h
  refine ⟨?_, ?_, ?_, ?_, ?_⟩
  · rw [cell_of hb.hb, ← ho.ne]; rfl
  · rw [cell_of hb.hb, ← ho.fi]; rfl
  · rw [cell_of hb.hb, ← ho.oe]; rfl
  · rw [cell_of hb.hb]; rfl
  · rw [cell_of hb.hb]; rfl
theorem BRep.frozen {w : World} {b : Nat} {F : List Nat} {st : BSt} (h : BRep w b F st) (k : Nat) : w.frozen? ⟨b, k, none⟩ = false := by
  obtain ⟨Y, V, G, M, r, c, rfl, hb, ho⟩ := h
  exact frozen_of hb.hb k
theorem assertNotNested_calls (b : Nat) (F : List Nat) (st : BSt) (w : World) (h : BRep w b F st) :
    Calls Tryz.prog 74 #[.pointer (some ⟨b, 0, none⟩)] w fun e w' => (if st.nested then ∃ u v, e = .panicked [{ v := .iface u v, recovered := false }] else e = .returned (.tuple #[])) ∧ w' = w := by
  obtain ⟨c6, _⟩ := h.cells
  clear h
  cases hn : st.nested with
  | true =>
    rw [hn] at c6
    go_enter Tryz.func74, Tryz.ntmps74
    go_wp2_with fail
    exact ⟨rfl, ⟨_, _, rfl⟩, rfl⟩
  | false =>
    rw [hn] at c6
    go_enter Tryz.func74, Tryz.ntmps74
    go_wp2_with fail
    go_end0
    exact ⟨rfl, rfl⟩
theorem assertNested_calls (b : Nat) (F : List Nat) (st : BSt) (w : World) (h : BRep w b F st) :
    Calls Tryz.prog 75 #[.pointer (some ⟨b, 0, none⟩)] w fun e w' => (if st.nested then e = .returned (.tuple #[]) else ∃ u v, e = .panicked [{ v := .iface u v, recovered := false }]) ∧ w' = w := by
  obtain ⟨c6, _⟩ := h.cells
  clear h
  cases hn : st.nested with
  | false =>
    rw [hn] at c6
    go_enter Tryz.func75, Tryz.ntmps75
    go_wp2_with fail
    exact ⟨rfl, ⟨_, _, rfl⟩, rfl⟩
  | true =>
    rw [hn] at c6
    go_enter Tryz.func75, Tryz.ntmps75
    go_wp2_with fail
    go_end0
    exact ⟨rfl, rfl⟩
theorem assertFinished_calls (b : Nat) (F : List Nat) (st : BSt) (w : World) (h : BRep w b F st) :
    Calls Tryz.prog 118 #[.pointer (some ⟨b, 0, none⟩)] w fun e w' => (if st.fin then e = .returned (.tuple #[]) else ∃ u v, e = .panicked [{ v := .iface u v, recovered := false }]) ∧ w' = w := by
  obtain ⟨_, c7, _⟩ := h.cells
  clear h
  cases hn : st.fin with
  | false =>
    rw [hn] at c7
    go_enter Tryz.func118, Tryz.ntmps118
    go_wp2_with fail
    exact ⟨rfl, ⟨_, _, rfl⟩, rfl⟩
  | true =>
    rw [hn] at c7
    go_enter Tryz.func118, Tryz.ntmps118
    go_wp2_with fail
    go_end0
    exact ⟨rfl, rfl⟩

theorem run_index_out' {P : Program} (t : TypeId) (a0 : Option Addr) (len cap : Nat) (k : IntKind) (i : Int) {e : TypeId} (h0 : P.underlying t = some (.slice e)) (hnil : a0 = none → len = 0) (ho : i < 0 ∨ (len : Int) ≤ i) :
    ∃ (fu : World → TypeId) (fv : World → Value) (fn : World → Nat), ∀ w, (Instr.indexAt t (.slice a0 len cap) (.int k i)).run P w = .halt (.panic (.iface (fu w) (fv w))) (w.drewN (fn w)) := by
  have h := fun w => run_index_out (P := P) w t a0 len cap k i h0 hnil ho
  exact ⟨fun w => (h w).choose, fun w => (h w).choose_spec.choose, fun w => (h w).choose_spec.choose_spec.choose, fun w => (h w).choose_spec.choose_spec.choose_spec⟩
/-- A field of the object that is begun stands in front. -/
def BSt.slot (st : BSt) (i : Int) : Option BSt :=
  match st.vtab with
  | none => none
  | some l => if 0 ≤ i ∧ i.toNat < l.length then some { st with vtab := some (l.set i.toNat st.m.bytes.length) } else none
theorem OffRow.set {w : World} {V : Nat} {v : Value} {l : List Nat} (h : OffRow w V v l) (i x : Nat) : OffRow (w.setCell ⟨V, i, none⟩ (.int .u32 x)) V v (l.set i x) := by
  obtain ⟨cv, h1, h2, h3, h4, h5⟩ := h
  refine ⟨cv.set! i (.int .u32 x), by rw [h1]; simp, heap_setCell_same h2 i _, by simpa using h3, ?_, by simpa using h5⟩
  simp only [Array.set!_eq_setIfInBounds, Array.toList_setIfInBounds, List.length_set]
  rw [List.take_set, h4]
  unfold u32s
  rw [List.map_set]
theorem BRep.vtset {w : World} {b Y V G M : Nat} {r : BRest} {c : Array Value} {st : BSt} {l : List Nat} (hb : BBm w b Y r st.m c) (ho : BOther w b V G M r st) (hl : st.vtab = some l) (i x : Nat) :
    BRep (w.setCell ⟨V, i, none⟩ (.int .u32 x)) b [b, Y, V, G, M] { st with vtab := some (l.set i x) } ∧ Adv w (w.setCell ⟨V, i, none⟩ (.int .u32 x)) [b, Y, V, G, M] [b, Y, V, G, M] := by
  have hvt := ho.vt
  rw [hl] at hvt
  have hVb := OffRow.ne_of hvt hb.hb (by decide)
  have hVY := OffRow.ne_of hvt hb.hy (by decide)
  have hf : Fr (fun k => k = V) w (w.setCell ⟨V, i, none⟩ (.int .u32 x)) := (Fr.refl (fun k => k = V) w).setCell (fun _ => rfl) _
  refine ⟨⟨Y, V, G, M, r, c, rfl, hb.fr hf (fun e => hVb e.symm) (fun e => hVY e.symm), ?_⟩, hf.mono (fun i _ hi => by subst hi; simp), fun k hk => .inl hk⟩
  have hsh := ho.sh
  refine ⟨OffRow.set hvt i x, ho.oe, ho.vs.fr hf (fun e => ho.vg e.symm), ho.ne, ho.fi, hsh.fr hf (fun hs e => ?_), ho.vg⟩
  cases hc : st.shared with
  | none => exact hs hc
  | some D =>
    rw [hc] at hsh
    obtain ⟨cv, _, h2, _⟩ := hvt
    exact ShRep.ne_of hsh (e ▸ h2) rfl

set_option maxHeartbeats 4000000 in
theorem Slot_calls (b : Nat) (F : List Nat) (st : BSt) (i : Int) (w : World) (h : BRep w b F st) :
    Calls Tryz.prog 57 #[.pointer (some ⟨b, 0, none⟩), .int .i64 i] w (BRes w b F ((st.slot i).map fun x => (.tuple #[], x))) := by
  obtain ⟨Y, V, G, M, r, c, rfl, hb, ho⟩ := h
  have c2 : w.cell? ⟨b, 2, none⟩ = some r.v2 := by rw [cell_of hb.hb]; rfl
  have HO := Lib.hid (fun nq => Offset_calls b Y r st.m.room st.m.least st.m.bytes c (w.drewN nq) (hb.drewN nq))
  have HO2 : ∀ w', (w'.cell? ⟨b, 2, none⟩ = some r.v2 ∧ ∃ k, w' = w.drewN k) → Calls Tryz.prog 32 #[.pointer (some ⟨b, 0, none⟩)] w' fun e w'' => e = .returned (.int .u32 st.m.bytes.length) ∧ (w''.cell? ⟨b, 2, none⟩ = some r.v2 ∧ ∃ k, w'' = w.drewN k) := by
    rintro w' ⟨h1, k, rfl⟩
    refine (HO.out k).mono ?_
    rintro e w' ⟨rfl, n, rfl⟩
    exact ⟨rfl, h1, k + n, World.drewN_drewN _ _ _⟩
  have HO2 := Lib.hid HO2
  have hfalls : ∀ (S : Nat → Prop) a0 n cp, r.v2 = .slice a0 n cp → (a0 = none → n = 0) → (i < 0 ∨ (n : Int) ≤ i) → Calls Tryz.prog 57 #[.pointer (some ⟨b, 0, none⟩), .int .i64 i] w (Falls2 S w) := by
    intro S a0 n cp hr2 hnil hout
    rw [hr2] at c2 HO2
    obtain ⟨fu, fv, fn, hidx⟩ := run_index_out' (P := Tryz.prog) 79 a0 n cp .i64 i Tryz.underlying79 hnil hout
    have hfal : ∀ w', (w'.cell? ⟨b, 2, none⟩ = some (.slice a0 n cp) ∧ ∃ k, w' = w.drewN k) → Fr S w (w'.drewN (fn w')) := by
      rintro w' ⟨_, k, rfl⟩
      exact ((Fr.refl _ w).drewN _).drewN _
    have HF := Lib.hid hfal
    clear hb ho hr2 hout hnil hfal
    go_enter Tryz.func57, Tryz.ntmps57
    refine wp_region_held_drew (S := fun w' => w'.cell? ⟨b, 2, none⟩ = some (.slice a0 n cp) ∧ ∃ k, w' = w.drewN k) (by kernel_rfl) ⟨c2, 1, rfl⟩ (fun hHeld => ?_)
    refine wpAnyH_take (i := 0) (v := .pointer (some ⟨b, 0, none⟩)) rfl (by kernel_rfl) (by kernel_rfl) (by kernel_rfl) (fun _ _ _ h => h) (Or.inl ⟨by rfl, ?_⟩) (by assumption) ?_
    · rintro _ ⟨hc, n, rfl⟩; go_simp
    simp only [Act.put, List.setIfInBounds_toArray, List.set_cons_zero, List.set_cons_succ]
    refine wpAnyH_take (i := 1) (v := .pointer (some ⟨b, 0, none⟩)) rfl (by kernel_rfl) (by kernel_rfl) (by kernel_rfl) (fun _ _ _ h => h) (Or.inl ⟨by rfl, ?_⟩) (by assumption) ?_
    · rintro _ ⟨hc, n, rfl⟩; go_simp
    simp only [Act.put, List.setIfInBounds_toArray, List.set_cons_zero, List.set_cons_succ]
    refine wpAnyH_take (i := 2) (v := .pointer (some ⟨b, 2, none⟩)) rfl (by kernel_rfl) (by kernel_rfl) (by kernel_rfl) (fun _ _ _ h => h) (Or.inl ⟨by rfl, ?_⟩) (by assumption) ?_
    · rintro _ ⟨hc, n, rfl⟩; go_simp
    simp only [Act.put, List.setIfInBounds_toArray, List.set_cons_zero, List.set_cons_succ]
    refine wpAnyH_take (i := 3) (v := .slice a0 n cp) rfl (by kernel_rfl) (by kernel_rfl) (by kernel_rfl) (fun _ _ _ h => h) (Or.inl ⟨by rfl, ?_⟩) (by assumption) ?_
    · rintro _ ⟨hc, n, rfl⟩; go_simp
    simp only [Act.put, List.setIfInBounds_toArray, List.set_cons_zero, List.set_cons_succ]
    refine wpAnyH_take (i := 4) (v := .int .i64 i) rfl (by kernel_rfl) (by kernel_rfl) (by kernel_rfl) (fun _ _ _ h => h) (Or.inl ⟨by rfl, ?_⟩) (by assumption) ?_
    · rintro _ ⟨hc, n, rfl⟩; go_simp
    simp only [Act.put, List.setIfInBounds_toArray, List.set_cons_zero, List.set_cons_succ]
    refine wpAnyH_take (i := 5) (v := .pointer (some ⟨b, 0, none⟩)) rfl (by kernel_rfl) (by kernel_rfl) (by kernel_rfl) (fun _ _ _ h => h) (Or.inl ⟨by rfl, ?_⟩) (by assumption) ?_
    · rintro _ ⟨hc, n, rfl⟩; go_simp
    simp only [Act.put, List.setIfInBounds_toArray, List.set_cons_zero, List.set_cons_succ]
    refine wpAnyH_ready (rs := [6]) (by kernel_rfl) (by simp) ?_
    refine AllReadyH.cons rfl (fun K hK => ?_) AllReadyH.nil
    go_simp
    refine (HO2.out _ hHeld).mono ?_
    rintro e w' ⟨rfl, hSS⟩
    refine hK.out _ _ hSS (fun hS2 => ?_)
    try simp only [Act.put, List.setIfInBounds_toArray, List.set_cons_zero, List.set_cons_succ]
    refine wpAnyH_ready (rs := [7]) (by kernel_rfl) (by simp) ?_
    refine AllReadyH.cons rfl (fun K hK => ?_) AllReadyH.nil
    go_simp
    exact ⟨rfl, ⟨_, _, rfl⟩, HF.out _ hS2⟩
  have hvt := ho.vt
  cases hv : st.vtab with
  | none =>
    rw [hv] at hvt
    have e : st.slot i = none := by unfold BSt.slot; rw [hv]
    rw [e]
    exact hfalls _ none 0 0 hvt.1 (fun _ => rfl) (by omega)
  | some l =>
    have hvs := BRep.vtset hb ho hv
    rw [hv] at hvt
    obtain ⟨cv, h1, h2, h3, h4, h5⟩ := hvt
    by_cases hi : 0 ≤ i ∧ i.toNat < l.length
    · have e : st.slot i = some { st with vtab := some (l.set i.toNat st.m.bytes.length) } := by unfold BSt.slot; rw [hv]; exact if_pos hi
      rw [e]
      clear e
      obtain ⟨k, rfl⟩ : ∃ k : Nat, i = k := ⟨i.toNat, by omega⟩
      have hk : k < l.length := by simpa using hi.2
      rw [h1] at c2
      have fV := frozen_of h2
      obtain ⟨v0, cV⟩ : ∃ v0, w.cell? ⟨V, k, none⟩ = some v0 := ⟨_, (cell_of h2 k).trans (Array.getElem?_eq_getElem (by omega))⟩
      have HVS := Lib.hid (fun nq => BRep.vtset (w := w.drewN nq) (hb.drewN nq) (ho.fr (S := fun _ => False) ((Fr.refl _ w).drewN nq) (fun _ h => h) (fun h => h) (fun _ h => h)) hv k st.m.bytes.length)
      clear hb ho h1 h3 h4 h5 hvs hfalls hi HO2 hv
      go_enter Tryz.func57, Tryz.ntmps57
      refine wp_region_last' _ (by simp) (by kernel_rfl) (by kernel_rfl) (by kernel_rfl) (by kernel_rfl) (by kernel_rfl) (by kernel_rfl) ?_
      simp only [List.dropLast]
      repeat (go_big_quiet_step ((go_at_call 32; exact quiet_drew (HO.out _))))
      refine wpQuiet_nil ?_
      intro nq
      refine wpOp_step rfl (fun K hK => ?_)
      go_simp
      refine hK _ _ ?_
      go_wp2_with fail
      go_end0
      exact ⟨rfl, _, (HVS.out nq).1, (HVS.out nq).2.of_drewN⟩
    · have e : st.slot i = none := by unfold BSt.slot; rw [hv]; exact if_neg hi
      rw [e]
      exact hfalls _ _ l.length cv.size h1 (fun e => by cases e) (by omega)
end Go.Proofs.YtfplgggepoaajaaGreat
