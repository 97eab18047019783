/- laws.buildRun. -/
import Derived.Test.YtfplgggepoaajaaGreatAwake
namespace Go.Proofs.YtfplgggepoaajaaGreat
open Go.RowKit
set_option linter.unusedVariables false
set_option linter.unusedSimpArgs false

/-- How a script ends: all answers, none a panic; or the last one is one. -/
theorem mRunB_some : ∀ (steps : List BS) (an : List BAns) (st st' : BSt), (mRunB steps an st).2 = some st' → (mRunB steps an st).1.length = an.length + steps.length ∧ ∀ i, an.length ≤ i → ∀ a, (mRunB steps an st).1[i]? = some a → a.p = false
  | [], an, st, st', _ => ⟨rfl, fun i hi a ha => by
      have : an[i]? = some a := ha
      rw [List.getElem?_eq_none (by omega)] at this; cases this⟩
  | s :: rest, an, st, st', h => by
    unfold mRunB at h ⊢
    cases hm : mStep st s (offOf s an) with
    | none => rw [hm] at h; cases h
    | some x =>
      obtain ⟨r, t, st1⟩ := x
      rw [hm] at h
      have ih := mRunB_some rest (an ++ [⟨r, st1.m.bytes.length, t, false⟩]) st1 st' h
      dsimp only at ih ⊢
      rw [List.length_append, List.length_singleton] at ih
      refine ⟨by rw [ih.1, List.length_cons]; omega, fun i hi a ha => ?_⟩
      by_cases e : i = an.length
      · subst e
        have hpre := mRunB_prefix rest (an ++ [⟨r, st1.m.bytes.length, t, false⟩]) st1 an.length (by simp)
        rw [hpre] at ha
        simp at ha
        subst ha; rfl
      · exact ih.2 i (by omega) a ha
where
  mRunB_prefix : ∀ (steps : List BS) (an : List BAns) (st : BSt) (i : Nat), i < an.length → (mRunB steps an st).1[i]? = an[i]?
  | [], an, st, i, _ => rfl
  | s :: rest, an, st, i, hi => by
    unfold mRunB
    cases hm : mStep st s (offOf s an) with
    | none => simp [List.getElem?_append_left hi]
    | some x =>
      obtain ⟨r, t, st1⟩ := x
      dsimp only
      rw [mRunB_prefix rest _ st1 i (by simp; omega), List.getElem?_append_left hi]
theorem mRunB_none : ∀ (steps : List BS) (an : List BAns) (st : BSt), (mRunB steps an st).2 = none → an.length < (mRunB steps an st).1.length ∧ (mRunB steps an st).1.length ≤ an.length + steps.length ∧ (mRunB steps an st).1[(mRunB steps an st).1.length - 1]? = some BAns.dead
  | [], an, st, h => by cases h
  | s :: rest, an, st, h => by
    unfold mRunB at h ⊢
    cases hm : mStep st s (offOf s an) with
    | none => simp
    | some x =>
      obtain ⟨r, t, st1⟩ := x
      rw [hm] at h
      have ih := mRunB_none rest (an ++ [⟨r, st1.m.bytes.length, t, false⟩]) st1 h
      dsimp only at ih ⊢
      rw [List.length_append, List.length_singleton] at ih
      refine ⟨by omega, by rw [List.length_cons]; omega, ih.2.2⟩

set_option maxRecDepth 20000 in
set_option maxHeartbeats 4000000 in
theorem buildRun_calls (v : Value) (steps : List BS) (w : World) (hown : w.ownsRow 0 28 11 v steps.length (steps.flatMap bsC)) (hlen : steps.length ≤ 300) (hsafe : SafeRun steps [] (st0 0)) :
    Calls Tryz.prog 14 #[v] w fun e w' => ∃ r, e = .returned (.tuple #[r, .string (strOf (dataOf (mScript 0 steps).2)), .bool (mScript 0 steps).2.isSome]) ∧
      w'.ownsRow w.heap.size 34 4 r (mScript 0 steps).1.length ((mScript 0 steps).1.flatMap bansC) ∧ Fr0 w w' := by
  have HT := Lib.hid (toScript_calls v steps w hown (by omega))
  have hvs : ∃ ao cap, v = .slice ao steps.length cap := by
    rcases hown.2 with ⟨rfl, h⟩ | ⟨g, cap, _, rfl, _⟩
    · exact ⟨none, 0, by rw [h]⟩
    · exact ⟨_, cap, rfl⟩
  obtain ⟨ao, cap, rfl⟩ := hvs
  obtain ⟨n, hn⟩ : ∃ n, n = steps.length := ⟨_, rfl⟩
  rw [← hn] at HT ⊢
  have HS := Lib.hid (fun r w' (h : w'.ownsRow w.heap.size 57 11 r steps.length (steps.flatMap bsC)) => Script_calls 0 r steps w' (by omega) ⟨h.1, h.2.imp id (fun ⟨g, cap, cur, e1, e2, e3⟩ => ⟨g, cap, cur, e1, Nat.zero_le _, e3⟩)⟩ hlen hsafe)
  have hsome := mRunB_some steps [] (st0 0)
  have hnone := mRunB_none steps [] (st0 0)
  have hm : mRunB steps [] (st0 0) = mScript 0 steps := rfl
  rw [hm] at hsome hnone
  rw [← hn] at hsome hnone HS hlen
  obtain ⟨D, hD⟩ : ∃ D, D = strOf (dataOf (mScript 0 steps).2) := ⟨_, rfl⟩
  rw [← hD] at HS ⊢
  generalize mScript 0 steps = M at *
  obtain ⟨al, so⟩ := M
  dsimp only at HS hsome hnone ⊢
  obtain ⟨m, hml⟩ : ∃ m, m = al.length := ⟨_, rfl⟩
  rw [← hml] at HS hsome hnone ⊢
  have HML := Lib.hid hml
  have hcase : (∃ st', so = some st' ∧ m = n ∧ (n = 0 ∨ ∃ a, al[n - 1]? = some a ∧ a.p = false)) ∨ (so = none ∧ 0 < m ∧ m ≤ n ∧ al[m - 1]? = some BAns.dead) := by
    cases so with
    | none =>
      have := hnone rfl
      simp only [List.length_nil] at this
      exact .inr ⟨rfl, this.1, by omega, this.2.2⟩
    | some st' =>
      have := hsome st' rfl
      simp only [List.length_nil] at this
      refine .inl ⟨st', rfl, by omega, ?_⟩
      by_cases h0 : n = 0
      · exact .inl h0
      · right
        have hlt : n - 1 < al.length := by omega
        exact ⟨al[n - 1], List.getElem?_eq_getElem hlt, this.2 (n - 1) (Nat.zero_le _) _ (List.getElem?_eq_getElem hlt)⟩
  have HCS := Lib.hid hcase
  clear hown hsafe hsome hnone hcase hn hm hD hml
  go_enter Tryz.func14, Tryz.ntmps14
  go_wp2_with fail
  refine HT.out.mono ?_
  rintro e w1 ⟨r, rfl, hown1, hf1⟩
  have HC := Lib.hid (HS.out r w1 hown1)
  have HF1 := Lib.hid hf1
  clear hown1 hf1
  go_wp2_with fail
  refine HC.out.mono ?_
  rintro e w2 ⟨r2, rfl, hown2, hf2⟩
  have hvs : ∃ ao cap, r2 = .slice ao m cap := by
    rcases hown2.2 with ⟨rfl, h⟩ | ⟨g, cap, _, rfl, _⟩
    · exact ⟨none, 0, by rw [h]⟩
    · exact ⟨_, cap, rfl⟩
  obtain ⟨ao2, cap2, rfl⟩ := hvs
  have hown3 : w2.ownsRow w.heap.size 34 4 (.slice ao2 m cap2) m (al.flatMap bansC) := ⟨hown2.1, hown2.2.imp id (fun ⟨g, cap, cur, e1, e2, e3⟩ => ⟨g, cap, cur, e1, by have := HF1.out.size; omega, e3⟩)⟩
  have HO := Lib.hid hown3
  have HF := Lib.hid (HF1.out.trans hf2)
  clear hown2 hf2 hown3
  rcases HCS.out with ⟨st', rfl, rfl, h0 | ⟨a, ha, hap⟩⟩ | ⟨rfl, hm0, hmn, hd⟩
  · subst h0
    go_wp2_with fail
    go_quiet (fail)
    go_wp2_with fail
    go_ret3
    exact ⟨_, rfl, HO.out, HF.out.drewN _⟩
  · have hlt : m - 1 < al.length := (List.getElem?_eq_some_iff.1 ha).1
    have hmm := HML.out
    have ho := HO.out
    rw [HML.out] at ho
    obtain ⟨g, cap3, hv2, hgl2, hcs2⟩ := own_cellsZ (f := bansC) (z := 4) (fun _ => rfl) ho hlt
    simp only [Value.slice.injEq] at hv2
    obtain ⟨rfl, -, rfl⟩ := hv2
    have e3 := hcs2 3 (by omega)
    have hga : al[m - 1] = a := by rw [List.getElem?_eq_getElem hlt] at ha; injection ha
    rw [hga] at e3
    have e3' : w2.cell? ⟨g, (m - 1) * 4 + 3, none⟩ = some (.bool false) := by rw [e3, ← hap]; rfl
    obtain ⟨k, rfl⟩ : ∃ k, m = k + 1 := ⟨m - 1, by omega⟩
    rw [show k + 1 - 1 = k by omega] at e3'
    clear ha hlt hmm ho hcs2 e3 hga hap
    have hk1 : ((k + 1 : Nat) : Int) = (k : Int) + 1 := by omega
    have hk2 : (k : Int) + 1 - 1 = (k : Int) := by omega
    have hk3 : (((k : Int) + 1) == 0) = false := by rw [beq_eq_false_iff_ne]; omega
    have hk4 : (((k + 1 : Nat) : Int) == 0) = false := by rw [beq_eq_false_iff_ne]; omega
    have hk5 : IntKind.i64.wrap ((k : Int) + 1 - 1) = (k : Int) := by rw [hk2]; exact IntWalk.i64_in _ ⟨by omega, by omega⟩
    have hk6 : (0 : Int) ≤ (k : Int) := by omega
    have hk7 : (k : Int) < (k : Int) + 1 := by omega
    go_wp2_with fail
    go_quiet (fail)
    go_wp2_with fail
    go_ret3
    exact ⟨_, rfl, HO.out, HF.out.drewN _⟩
  · by_cases hmn2 : m = n
    · subst hmn2
      have hlt : m - 1 < al.length := (List.getElem?_eq_some_iff.1 hd).1
      have ho := HO.out
      rw [HML.out] at ho
      obtain ⟨g, cap3, hv2, hgl2, hcs2⟩ := own_cellsZ (f := bansC) (z := 4) (fun _ => rfl) ho hlt
      simp only [Value.slice.injEq] at hv2
      obtain ⟨rfl, -, rfl⟩ := hv2
      have e3 := hcs2 3 (by omega)
      have hga : al[m - 1] = BAns.dead := by rw [List.getElem?_eq_getElem hlt] at hd; injection hd
      rw [hga] at e3
      have e3' : w2.cell? ⟨g, (m - 1) * 4 + 3, none⟩ = some (.bool true) := by rw [e3]; rfl
      obtain ⟨k, rfl⟩ : ∃ k, m = k + 1 := ⟨m - 1, by omega⟩
      rw [show k + 1 - 1 = k by omega] at e3'
      clear hd hlt ho hcs2 e3 hga
      have hk1 : ((k + 1 : Nat) : Int) = (k : Int) + 1 := by omega
      have hk2 : (k : Int) + 1 - 1 = (k : Int) := by omega
      have hk3 : (((k : Int) + 1) == 0) = false := by rw [beq_eq_false_iff_ne]; omega
      have hk4 : (((k + 1 : Nat) : Int) == 0) = false := by rw [beq_eq_false_iff_ne]; omega
      have hk5 : IntKind.i64.wrap ((k : Int) + 1 - 1) = (k : Int) := by rw [hk2]; exact IntWalk.i64_in _ ⟨by omega, by omega⟩
      have hk6 : (0 : Int) ≤ (k : Int) := by omega
      have hk7 : (k : Int) < (k : Int) + 1 := by omega
      go_wp2_with fail
      go_quiet (fail)
      go_wp2_with fail
      go_ret3
      exact ⟨_, rfl, HO.out, HF.out.drewN _⟩
    · have hk1 : ((m : Int) == (n : Int)) = false := by rw [beq_eq_false_iff_ne]; omega
      have hk2 : (m == n) = false := by rw [beq_eq_false_iff_ne]; exact hmn2
      clear hd hmn2
      go_wp2_with fail
      go_quiet (fail)
      go_wp2_with fail
      go_ret3
      exact ⟨_, rfl, HO.out, HF.out.drewN _⟩
end Go.Proofs.YtfplgggepoaajaaGreat
