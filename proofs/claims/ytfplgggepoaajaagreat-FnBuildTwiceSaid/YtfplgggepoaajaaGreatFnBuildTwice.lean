import Derived.Test.YtfplgggepoaajaaGreatToScript
import Derived.Test.YtfplgggepoaajaaGreatStInv
import Derived.OpenShut
import Derived.Test.YtfplgggepoaajaaGreatBase
import Derived.Test.YtfplgggepoaajaaGreatRegTail
import Derived.Deep.AppendLies

/- laws.buildAwake. -/
namespace Go.Proofs.YtfplgggepoaajaaGreat
open Go.RowKit
set_option linter.unusedVariables false
set_option linter.unusedSimpArgs false

def stepStr : BS := ⟨12, 0, 0, 0, 0, 0, 0, 0, 0, 0, [97, 98]⟩
def stepEnd : BS := ⟨1, 0, 0, 0, 0, 0, 0, 0, 0, 0, []⟩
theorem run_str1 : (mScript 0 [stepStr]).1 = [⟨8, 8, [], false⟩] := by kernel_rfl
theorem run_str2 : dataOf (mScript 0 [stepStr]).2 = [2, 0, 0, 0, 97, 98, 0, 0] := by kernel_rfl
theorem run_end1 : (mScript 0 [stepEnd]).1 = [BAns.dead] := by kernel_rfl
theorem run_end2 : dataOf (mScript 0 [stepEnd]).2 = [] := by kernel_rfl
theorem sok_str : SOK stepStr := by constructor <;> simp [stepStr]
theorem sok_end : SOK stepEnd := by constructor <;> simp [stepEnd]
theorem safe_str : SafeRun [stepStr] [] (st0 0) := by
  refine ⟨sok_str, trivial, ?_⟩
  split <;> trivial
theorem safe_end : SafeRun [stepEnd] [] (st0 0) := by
  refine ⟨sok_end, trivial, ?_⟩
  split <;> trivial
theorem own_lit {w : World} {t : TypeId} {z n : Nat} {xs : List Value} (hx : xs.length = n * z) (hn : n ≤ 1000000) : (w.alloc (.cells xs.toArray t)).ownsRow 0 t z (.slice (some ⟨w.heap.size, 0, none⟩) n n) n xs := by
  refine ⟨hx, .inr ⟨w.heap.size, n, xs.toArray, rfl, Nat.zero_le _, heap_alloc_new w _, Nat.le_refl _, by unfold maxLen; omega, by simpa using hx, by rw [← hx]; simp⟩⟩
theorem Script_str (w : World) (W : World) (hW : W = w.alloc (.cells (bsC stepStr).toArray 57)) :
    Calls Tryz.prog 21 #[.int .i64 0, .slice (some ⟨w.heap.size, 0, none⟩) 1 1] W fun e w' => ∃ g cap, e = .returned (.tuple #[.slice (some ⟨g, 0, none⟩) 1 cap, .string ⟨#[2, 0, 0, 0, 97, 98, 0, 0]⟩]) ∧ W.heap.size ≤ g ∧ g < w'.heap.size ∧ w'.cell? ⟨g, 0, none⟩ = some (.int .u32 8) ∧ Fr0 W w' := by
  subst hW
  refine (Script_calls 0 (.slice (some ⟨w.heap.size, 0, none⟩) 1 1) [stepStr] _ (by omega) (own_lit (w := w) (t := 57) (z := 11) (n := 1) (xs := bsC stepStr) rfl (by omega)) (by simp) safe_str).mono ?_
  rintro e w' ⟨r, rfl, hown, hf⟩
  rw [run_str1] at hown
  rw [run_str2]
  obtain ⟨g, cap, hv, hgl, hcs⟩ := own_cellsZ (f := bansC) (z := 4) (fun _ => rfl) hown (i := 0) (by simp)
  have hb := (own_block_lt hown g (by rw [hv]; rfl)).1
  subst hv
  exact ⟨g, cap, rfl, hb, hgl, hcs 0 (by omega), hf⟩
theorem Script_end (w : World) (W : World) (hW : W = w.alloc (.cells (bsC stepEnd).toArray 57)) :
    Calls Tryz.prog 21 #[.int .i64 0, .slice (some ⟨w.heap.size, 0, none⟩) 1 1] W fun e w' => ∃ g cap, e = .returned (.tuple #[.slice (some ⟨g, 0, none⟩) 1 cap, .string ⟨#[]⟩]) ∧ W.heap.size ≤ g ∧ g < w'.heap.size ∧ w'.cell? ⟨g, 3, none⟩ = some (.bool true) ∧ Fr0 W w' := by
  subst hW
  refine (Script_calls 0 (.slice (some ⟨w.heap.size, 0, none⟩) 1 1) [stepEnd] _ (by omega) (own_lit (w := w) (t := 57) (z := 11) (n := 1) (xs := bsC stepEnd) rfl (by omega)) (by simp) safe_end).mono ?_
  rintro e w' ⟨r, rfl, hown, hf⟩
  rw [run_end1] at hown
  rw [run_end2]
  obtain ⟨g, cap, hv, hgl, hcs⟩ := own_cellsZ (f := bansC) (z := 4) (fun _ => rfl) hown (i := 0) (by simp)
  have hb := (own_block_lt hown g (by rw [hv]; rfl)).1
  subst hv
  exact ⟨g, cap, rfl, hb, hgl, hcs 3 (by omega), hf⟩
set_option maxRecDepth 20000 in
set_option maxHeartbeats 2000000 in
theorem buildAwake_calls (w : World) : Calls Tryz.prog 12 #[] w fun e w' => e = .returned (.bool true) ∧ Fr0 w w' := by
  have HA := Lib.hid (fun w => Script_str w _ rfl)
  have HB := Lib.hid (fun w => Script_end w _ rfl)
  unfold bsC stepStr at HA
  unfold bsC stepEnd at HB
  dsimp only at HA HB
  go_enter Tryz.func12, Tryz.ntmps12
  go_wp2_with fail
  refine (HA.out w).mono ?_
  rintro e w1 ⟨g, cap, rfl, hg, hgl, c0, hf1⟩
  have HF1 := Lib.hid (((Fr.refl (fun _ => False) w).alloc _).trans hf1)
  clear hf1 hg
  go_wp2_with fail
  refine (HB.out w1).mono ?_
  rintro e w2 ⟨g2, cap2, rfl, hg2, hgl2, c3, hf2⟩
  have hf3 := ((Fr.refl (fun _ => False) w1).alloc _).trans hf2
  have d0 : w2.cell? ⟨g, 0, none⟩ = some (.int .u32 8) := (Fr.cell hf3 (p := ⟨g, 0, none⟩) hgl (fun x => x)).trans c0
  have HF3 := Lib.hid (HF1.out.trans hf3)
  clear hf2 hf3 hg2 c0
  go_wp2_with fail
  go_ret
  exact ⟨rfl, HF3.out⟩
end Go.Proofs.YtfplgggepoaajaaGreat

/- laws.buildRun. -/
namespace Go.Proofs.YtfplgggepoaajaaGreat
open Go.RowKit
set_option linter.unusedVariables false
set_option linter.unusedSimpArgs false

/-- How a script ends: all answers, none a panic; or the last one is one. -/
theorem mRunB_some : ∀ (steps : List BS) (an : List BAns) (st st' : BSt), (mRunB steps an st).2 = some st' → (mRunB steps an st).1.length = an.length + steps.length ∧ ∀ i, an.length ≤ i → ∀ a, (mRunB steps an st).1[i]? = some a → a.p = false
  | [], an, st, st', _ => ⟨rfl, fun i hi a ha => by
      have : an[i]? = some a := ha
      rw [List.getElem?_eq_none (by omega)] at this; cases this⟩
  | s :: rest, an, st, st', h => by
    unfold mRunB at h ⊢
    cases hm : mStep st s (offOf s an) with
    | none => rw [hm] at h; cases h
    | some x =>
      obtain ⟨r, t, st1⟩ := x
      rw [hm] at h
      have ih := mRunB_some rest (an ++ [⟨r, st1.m.bytes.length, t, false⟩]) st1 st' h
      dsimp only at ih ⊢
      rw [List.length_append, List.length_singleton] at ih
      refine ⟨by rw [ih.1, List.length_cons]; omega, fun i hi a ha => ?_⟩
      by_cases e : i = an.length
      · subst e
        have hpre := mRunB_prefix rest (an ++ [⟨r, st1.m.bytes.length, t, false⟩]) st1 an.length (by simp)
        rw [hpre] at ha
        simp at ha
        subst ha; rfl
      · exact ih.2 i (by omega) a ha
where
  mRunB_prefix : ∀ (steps : List BS) (an : List BAns) (st : BSt) (i : Nat), i < an.length → (mRunB steps an st).1[i]? = an[i]?
  | [], an, st, i, _ => rfl
  | s :: rest, an, st, i, hi => by
    unfold mRunB
    cases hm : mStep st s (offOf s an) with
    | none => simp [List.getElem?_append_left hi]
    | some x =>
      obtain ⟨r, t, st1⟩ := x
      dsimp only
      rw [mRunB_prefix rest _ st1 i (by simp; omega), List.getElem?_append_left hi]
theorem mRunB_none : ∀ (steps : List BS) (an : List BAns) (st : BSt), (mRunB steps an st).2 = none → an.length < (mRunB steps an st).1.length ∧ (mRunB steps an st).1.length ≤ an.length + steps.length ∧ (mRunB steps an st).1[(mRunB steps an st).1.length - 1]? = some BAns.dead
  | [], an, st, h => by cases h
  | s :: rest, an, st, h => by
    unfold mRunB at h ⊢
    cases hm : mStep st s (offOf s an) with
    | none => simp
    | some x =>
      obtain ⟨r, t, st1⟩ := x
      rw [hm] at h
      have ih := mRunB_none rest (an ++ [⟨r, st1.m.bytes.length, t, false⟩]) st1 h
      dsimp only at ih ⊢
      rw [List.length_append, List.length_singleton] at ih
      refine ⟨by omega, by rw [List.length_cons]; omega, ih.2.2⟩

set_option maxRecDepth 20000 in
set_option maxHeartbeats 4000000 in
theorem buildRun_calls (v : Value) (steps : List BS) (w : World) (hown : w.ownsRow 0 28 11 v steps.length (steps.flatMap bsC)) (hlen : steps.length ≤ 300) (hsafe : SafeRun steps [] (st0 0)) :
    Calls Tryz.prog 14 #[v] w fun e w' => ∃ r, e = .returned (.tuple #[r, .string (strOf (dataOf (mScript 0 steps).2)), .bool (mScript 0 steps).2.isSome]) ∧
      w'.ownsRow w.heap.size 34 4 r (mScript 0 steps).1.length ((mScript 0 steps).1.flatMap bansC) ∧ Fr0 w w' := by
  have HT := Lib.hid (toScript_calls v steps w hown (by omega))
  have hvs : ∃ ao cap, v = .slice ao steps.length cap := by
    rcases hown.2 with ⟨rfl, h⟩ | ⟨g, cap, _, rfl, _⟩
    · exact ⟨none, 0, by rw [h]⟩
    · exact ⟨_, cap, rfl⟩
  obtain ⟨ao, cap, rfl⟩ := hvs
  obtain ⟨n, hn⟩ : ∃ n, n = steps.length := ⟨_, rfl⟩
  rw [← hn] at HT ⊢
  have HS := Lib.hid (fun r w' (h : w'.ownsRow w.heap.size 57 11 r steps.length (steps.flatMap bsC)) => Script_calls 0 r steps w' (by omega) ⟨h.1, h.2.imp id (fun ⟨g, cap, cur, e1, e2, e3⟩ => ⟨g, cap, cur, e1, Nat.zero_le _, e3⟩)⟩ hlen hsafe)
  have hsome := mRunB_some steps [] (st0 0)
  have hnone := mRunB_none steps [] (st0 0)
  have hm : mRunB steps [] (st0 0) = mScript 0 steps := rfl
  rw [hm] at hsome hnone
  rw [← hn] at hsome hnone HS hlen
  obtain ⟨D, hD⟩ : ∃ D, D = strOf (dataOf (mScript 0 steps).2) := ⟨_, rfl⟩
  rw [← hD] at HS ⊢
  generalize mScript 0 steps = M at *
  obtain ⟨al, so⟩ := M
  dsimp only at HS hsome hnone ⊢
  obtain ⟨m, hml⟩ : ∃ m, m = al.length := ⟨_, rfl⟩
  rw [← hml] at HS hsome hnone ⊢
  have HML := Lib.hid hml
  have hcase : (∃ st', so = some st' ∧ m = n ∧ (n = 0 ∨ ∃ a, al[n - 1]? = some a ∧ a.p = false)) ∨ (so = none ∧ 0 < m ∧ m ≤ n ∧ al[m - 1]? = some BAns.dead) := by
    cases so with
    | none =>
      have := hnone rfl
      simp only [List.length_nil] at this
      exact .inr ⟨rfl, this.1, by omega, this.2.2⟩
    | some st' =>
      have := hsome st' rfl
      simp only [List.length_nil] at this
      refine .inl ⟨st', rfl, by omega, ?_⟩
      by_cases h0 : n = 0
      · exact .inl h0
      · right
        have hlt : n - 1 < al.length := by omega
        exact ⟨al[n - 1], List.getElem?_eq_getElem hlt, this.2 (n - 1) (Nat.zero_le _) _ (List.getElem?_eq_getElem hlt)⟩
  have HCS := Lib.hid hcase
  clear hown hsafe hsome hnone hcase hn hm hD hml
  go_enter Tryz.func14, Tryz.ntmps14
  go_wp2_with fail
  refine HT.out.mono ?_
  rintro e w1 ⟨r, rfl, hown1, hf1⟩
  have HC := Lib.hid (HS.out r w1 hown1)
  have HF1 := Lib.hid hf1
  clear hown1 hf1
  go_wp2_with fail
  refine HC.out.mono ?_
  rintro e w2 ⟨r2, rfl, hown2, hf2⟩
  have hvs : ∃ ao cap, r2 = .slice ao m cap := by
    rcases hown2.2 with ⟨rfl, h⟩ | ⟨g, cap, _, rfl, _⟩
    · exact ⟨none, 0, by rw [h]⟩
    · exact ⟨_, cap, rfl⟩
  obtain ⟨ao2, cap2, rfl⟩ := hvs
  have hown3 : w2.ownsRow w.heap.size 34 4 (.slice ao2 m cap2) m (al.flatMap bansC) := ⟨hown2.1, hown2.2.imp id (fun ⟨g, cap, cur, e1, e2, e3⟩ => ⟨g, cap, cur, e1, by have := HF1.out.size; omega, e3⟩)⟩
  have HO := Lib.hid hown3
  have HF := Lib.hid (HF1.out.trans hf2)
  clear hown2 hf2 hown3
  rcases HCS.out with ⟨st', rfl, rfl, h0 | ⟨a, ha, hap⟩⟩ | ⟨rfl, hm0, hmn, hd⟩
  · subst h0
    go_wp2_with fail
    go_quiet (fail)
    go_wp2_with fail
    go_ret3
    exact ⟨_, rfl, HO.out, HF.out.drewN _⟩
  · have hlt : m - 1 < al.length := (List.getElem?_eq_some_iff.1 ha).1
    have hmm := HML.out
    have ho := HO.out
    rw [HML.out] at ho
    obtain ⟨g, cap3, hv2, hgl2, hcs2⟩ := own_cellsZ (f := bansC) (z := 4) (fun _ => rfl) ho hlt
    simp only [Value.slice.injEq] at hv2
    obtain ⟨rfl, -, rfl⟩ := hv2
    have e3 := hcs2 3 (by omega)
    have hga : al[m - 1] = a := by rw [List.getElem?_eq_getElem hlt] at ha; injection ha
    rw [hga] at e3
    have e3' : w2.cell? ⟨g, (m - 1) * 4 + 3, none⟩ = some (.bool false) := by rw [e3, ← hap]; rfl
    obtain ⟨k, rfl⟩ : ∃ k, m = k + 1 := ⟨m - 1, by omega⟩
    rw [show k + 1 - 1 = k by omega] at e3'
    clear ha hlt hmm ho hcs2 e3 hga hap
    have hk1 : ((k + 1 : Nat) : Int) = (k : Int) + 1 := by omega
    have hk2 : (k : Int) + 1 - 1 = (k : Int) := by omega
    have hk3 : (((k : Int) + 1) == 0) = false := by rw [beq_eq_false_iff_ne]; omega
    have hk4 : (((k + 1 : Nat) : Int) == 0) = false := by rw [beq_eq_false_iff_ne]; omega
    have hk5 : IntKind.i64.wrap ((k : Int) + 1 - 1) = (k : Int) := by rw [hk2]; exact IntWalk.i64_in _ ⟨by omega, by omega⟩
    have hk6 : (0 : Int) ≤ (k : Int) := by omega
    have hk7 : (k : Int) < (k : Int) + 1 := by omega
    go_wp2_with fail
    go_quiet (fail)
    go_wp2_with fail
    go_ret3
    exact ⟨_, rfl, HO.out, HF.out.drewN _⟩
  · by_cases hmn2 : m = n
    · subst hmn2
      have hlt : m - 1 < al.length := (List.getElem?_eq_some_iff.1 hd).1
      have ho := HO.out
      rw [HML.out] at ho
      obtain ⟨g, cap3, hv2, hgl2, hcs2⟩ := own_cellsZ (f := bansC) (z := 4) (fun _ => rfl) ho hlt
      simp only [Value.slice.injEq] at hv2
      obtain ⟨rfl, -, rfl⟩ := hv2
      have e3 := hcs2 3 (by omega)
      have hga : al[m - 1] = BAns.dead := by rw [List.getElem?_eq_getElem hlt] at hd; injection hd
      rw [hga] at e3
      have e3' : w2.cell? ⟨g, (m - 1) * 4 + 3, none⟩ = some (.bool true) := by rw [e3]; rfl
      obtain ⟨k, rfl⟩ : ∃ k, m = k + 1 := ⟨m - 1, by omega⟩
      rw [show k + 1 - 1 = k by omega] at e3'
      clear hd hlt ho hcs2 e3 hga
      have hk1 : ((k + 1 : Nat) : Int) = (k : Int) + 1 := by omega
      have hk2 : (k : Int) + 1 - 1 = (k : Int) := by omega
      have hk3 : (((k : Int) + 1) == 0) = false := by rw [beq_eq_false_iff_ne]; omega
      have hk4 : (((k + 1 : Nat) : Int) == 0) = false := by rw [beq_eq_false_iff_ne]; omega
      have hk5 : IntKind.i64.wrap ((k : Int) + 1 - 1) = (k : Int) := by rw [hk2]; exact IntWalk.i64_in _ ⟨by omega, by omega⟩
      have hk6 : (0 : Int) ≤ (k : Int) := by omega
      have hk7 : (k : Int) < (k : Int) + 1 := by omega
      go_wp2_with fail
      go_quiet (fail)
      go_wp2_with fail
      go_ret3
      exact ⟨_, rfl, HO.out, HF.out.drewN _⟩
    · have hk1 : ((m : Int) == (n : Int)) = false := by rw [beq_eq_false_iff_ne]; omega
      have hk2 : (m == n) = false := by rw [beq_eq_false_iff_ne]; exact hmn2
      clear hd hmn2
      go_wp2_with fail
      go_quiet (fail)
      go_wp2_with fail
      go_ret3
      exact ⟨_, rfl, HO.out, HF.out.drewN _⟩
end Go.Proofs.YtfplgggepoaajaaGreat

/- Plain facts about a Builder's bytes. -/
namespace Go.Proofs.YtfplgggepoaajaaGreat
open Go.RowKit
set_option linter.unusedVariables false
set_option linter.unusedSimpArgs false

theorem padB_mod (u s : Nat) (hs : algn s) : (padB u s + u) % s = 0 := by
  unfold padB; unfold algn at hs
  rcases hs with rfl | rfl | rfl | rfl | rfl <;> omega
theorem prep_mod (m : BM) (size add : Nat) (hs : algn size) : ((m.prep size add).bytes.length + add) % size = 0 := by
  rw [m.prep_len size add hs]
  have := padB_mod (m.bytes.length + add) size hs
  unfold BM.pad
  rw [Nat.add_assoc]; exact this
theorem prep_bytes (m : BM) (size add : Nat) : (m.prep size add).bytes = List.replicate (m.pad size add) 0 ++ m.bytes := rfl
theorem prep_id (m : BM) (size add : Nat) (hs : algn size) (h : (m.bytes.length + add) % size = 0) : (m.prep size add).bytes = m.bytes := by
  have e : m.pad size add = 0 := by
    unfold BM.pad padB
    rw [h]
    unfold algn at hs
    rw [Nat.sub_zero, Nat.mod_self]
  rw [prep_bytes, e]; rfl
/-- The bytes of a string. -/
theorem text_true (m : BM) (xs : List UInt8) : ∃ k, k < 4 ∧ (m.text xs true).bytes = leB 4 xs.length ++ (xs ++ (0 :: (List.replicate k 0 ++ m.bytes))) ∧ (m.text xs true).bytes.length % 4 = 0 := by
  have ha : algn 4 := by unfold algn; omega
  refine ⟨m.pad 4 (xs.length + 1), m.pad_lt 4 _ ha, rfl, ?_⟩
  have h := prep_mod m 4 (xs.length + 1) ha
  have e : (m.text xs true).bytes = leB 4 xs.length ++ (xs ++ ([0] ++ (m.prep 4 (xs.length + 1)).bytes)) := rfl
  rw [e]
  simp only [List.length_append, leB_length, List.length_singleton]
  omega
theorem text_false (m : BM) (xs : List UInt8) : ∃ k, k < 4 ∧ (m.text xs false).bytes = leB 4 xs.length ++ (xs ++ (List.replicate k 0 ++ m.bytes)) ∧ (m.text xs false).bytes.length % 4 = 0 := by
  have ha : algn 4 := by unfold algn; omega
  refine ⟨m.pad 4 xs.length, m.pad_lt 4 _ ha, rfl, ?_⟩
  have h := prep_mod m 4 xs.length ha
  have e : (m.text xs false).bytes = leB 4 xs.length ++ (xs ++ (m.prep 4 xs.length).bytes) := rfl
  rw [e]
  simp only [List.length_append, leB_length]
  omega
theorem refer_pos {st : BSt} {off : Nat} (h4 : st.m.bytes.length % 4 = 0) (ho : off ≤ st.m.bytes.length) : ∃ m, st.refer off = some { st with m := m } ∧ m.bytes = leB 4 (st.m.bytes.length - off + 4) ++ st.m.bytes := by
  have e := prep_id st.m 4 0 (by unfold algn; omega) h4
  refine ⟨(st.m.prep 4 0).put (leB 4 ((st.m.prep 4 0).bytes.length - off + 4)), ?_, ?_⟩
  · unfold BSt.refer BM.refer
    rw [e, if_pos ho]; rfl
  · show leB 4 _ ++ (st.m.prep 4 0).bytes = _
    rw [e]
theorem refer_neg {st : BSt} {off : Nat} (h4 : st.m.bytes.length % 4 = 0) (ho : st.m.bytes.length < off) : st.refer off = none := by
  have e := prep_id st.m 4 0 (by unfold algn; omega) h4
  unfold BSt.refer BM.refer
  rw [e, if_neg (by omega)]; rfl
theorem run_str_at {D : ByteArray} {l : List UInt8} (hD : D = strOf l) (i : Nat) {x : UInt8} (h : l[i]? = some x) (w : World) : (Instr.index 9 (.string D) (.int .i64 i)).run Tryz.prog w = .ok (.int .u8 (x.toNat : Int)) w := by
  subst hD
  obtain ⟨hlt, hx⟩ := List.getElem?_eq_some_iff.1 h
  rw [run_index_string w 9 _ .i64 i Tryz.underlying9, dif_pos ⟨by omega, by rw [strOf_size]; omega⟩, ← hx]
  rfl
theorem u32or4 (x0 x1 x2 x3 : UInt8) : bits .or .u32 (bits .or .u32 (bits .or .u32 (x0.toNat : Int) ((x1.toNat : Int) * 256)) ((x2.toNat : Int) * 65536)) ((x3.toNat : Int) * 16777216) = ((le [x0, x1, x2, x3] : Nat) : Int) := by
  have h := or4 .u32 x0 x1 x2 x3
  rw [bits_wrap_or] at h
  rw [h]
  have hb := le_lt [x0, x1, x2, x3]
  simp only [List.length_cons, List.length_nil] at hb
  exact IntWalk.u32_in _ (by omega)
end Go.Proofs.YtfplgggepoaajaaGreat

/- Plain facts about a Builder's bytes, for the statements. -/
namespace Go.Proofs.YtfplgggepoaajaaGreat
open Go.RowKit
set_option linter.unusedVariables false
set_option linter.unusedSimpArgs false

/-- A script whose steps can be asked. -/
theorem safe_all : ∀ (steps : List BS) (an : List BAns) (st : BSt), (∀ s ∈ steps, SOK s) → SafeRun steps an st
  | [], _, _, _ => trivial
  | s :: rest, an, st, h => by
    refine ⟨h s (by simp), trivial, ?_⟩
    cases e : mStep st s (offOf s an) with
    | none => trivial
    | some x =>
      obtain ⟨r, t, st'⟩ := x
      exact safe_all rest _ st' (fun s hs => h s (by simp [hs]))
def HasVt (st : BSt) : Prop := True
theorem HasVt.start (n : Nat) : HasVt (st0 n) := trivial
theorem safe_plain (steps : List BS) (an : List BAns) (st : BSt) (h : ∀ s ∈ steps, SOK s ∧ s.op ≠ 17 ∧ s.op ≠ 18 ∧ s.op ≠ 10) (hv : HasVt st) : SafeRun steps an st := safe_all steps an st fun s hs => (h s hs).1
/-- One step more. -/
theorem mRunB_cons {s : BS} {rest : List BS} {an : List BAns} {st st' : BSt} {r : Nat} {t : List UInt8} (h : mStep st s (offOf s an) = some (r, t, st')) : mRunB (s :: rest) an st = mRunB rest (an ++ [⟨r, st'.m.bytes.length, t, false⟩]) st' := by
  conv => lhs; unfold mRunB
  rw [h]
theorem mRunB_stop {s : BS} {rest : List BS} {an : List BAns} {st : BSt} (h : mStep st s (offOf s an) = none) : mRunB (s :: rest) an st = (an ++ [BAns.dead], none) := by
  conv => lhs; unfold mRunB
  rw [h]
end Go.Proofs.YtfplgggepoaajaaGreat

/- spec.ScalarSize, spec.ScalarRight. -/
namespace Go.Proofs.YtfplgggepoaajaaGreat
open Go.RowKit
set_option linter.unusedVariables false
set_option linter.unusedSimpArgs false

theorem run_sizes (i : Nat) (hi : i < 11) (w : World) : (Instr.index 60 (.agg #[.int .i64 1, .int .i64 1, .int .i64 1, .int .i64 2, .int .i64 2, .int .i64 4, .int .i64 4, .int .i64 8, .int .i64 8, .int .i64 4, .int .i64 8]) (.int .u8 (i : Nat))).run Tryz.prog w = .ok (.int .i64 (numSize (i : Nat))) w := by
  rcases (show i = 0 ∨ i = 1 ∨ i = 2 ∨ i = 3 ∨ i = 4 ∨ i = 5 ∨ i = 6 ∨ i = 7 ∨ i = 8 ∨ i = 9 ∨ i = 10 by omega) with rfl | rfl | rfl | rfl | rfl | rfl | rfl | rfl | rfl | rfl | rfl
  all_goals kernel_rfl
theorem ScalarSize_calls (k : Nat) (hk : k ≤ 10) (w : World) : Calls Tryz.prog 15 #[.int .u8 (k : Nat)] w fun e w' => e = .returned (.int .i64 (numSize k)) ∧ w' = w := by
  have hix := fun w => run_sizes k (by omega) w
  obtain ⟨z, hz⟩ : ∃ z, z = numSize (k : Int) := ⟨_, rfl⟩
  rw [← hz] at hix ⊢
  clear hk hz
  go_enter Tryz.func15, Tryz.ntmps15
  go_wp2_with fail
  go_ret
  exact ⟨rfl, rfl⟩
/-- The bits of a scalar are its kind's. -/
def rightB (k n : Nat) : Bool := if k = 0 then decide (n ≤ 1) else decide (k ≤ 10 ∧ n < 2 ^ (8 * numSize k))
theorem rightB_of (k n P : Nat) (h0 : k ≠ 0) (hk : k ≤ 10) (hP : 2 ^ (8 * numSize (k : Int)) = P) : rightB k n = decide (n < P) := by
  subst hP
  unfold rightB
  rw [if_neg h0]
  exact decide_eq_decide.2 ⟨fun h => h.2, fun h => ⟨hk, h⟩⟩
theorem rightB_iff (k n : Nat) : rightB k n = true ↔ Right (k : Int) n := by
  unfold rightB Right
  by_cases hk : k = 0
  · subst hk
    rw [if_pos rfl, decide_eq_true_iff]
    constructor
    · intro h; exact ⟨by omega, by omega, fun _ => h, by rw [show numSize ((0 : Nat) : Int) = 1 from rfl]; omega⟩
    · intro h; exact h.2.2.1 rfl
  · rw [if_neg hk, decide_eq_true_iff]
    constructor
    · intro h; exact ⟨by omega, by omega, fun h0 => absurd h0 (by omega), h.2⟩
    · intro h; exact ⟨by omega, h.2.2.2⟩
set_option maxRecDepth 20000 in
set_option maxHeartbeats 2000000 in
theorem ScalarRight_calls (k n : Nat) (hk : k < 256) (hn : n < 2 ^ 64) (w : World) : Calls Tryz.prog 11 #[.int .u8 (k : Nat), .int .u64 (n : Nat)] w fun e w' => e = .returned (.bool (rightB k n)) ∧ w' = w := by
  by_cases h10 : 10 < k
  · have e : rightB k n = false := by unfold rightB; rw [if_neg (by omega), decide_eq_false_iff_not]; omega
    rw [e]
    have h0 : ((k : Int) == 0) = false := by rw [beq_eq_false_iff_ne]; omega
    clear e
    go_enter Tryz.func11, Tryz.ntmps11
    go_wp2_with fail
    go_ret
    exact ⟨rfl, rfl⟩
  · have HS := Lib.hid (fun w => ScalarSize_calls k (by omega) w)
    have hn2 : n < 18446744073709551616 := hn
    clear hn
    rcases (show k = 0 ∨ k = 1 ∨ k = 2 ∨ k = 3 ∨ k = 4 ∨ k = 5 ∨ k = 6 ∨ k = 7 ∨ k = 8 ∨ k = 9 ∨ k = 10 by omega) with rfl | rfl | rfl | rfl | rfl | rfl | rfl | rfl | rfl | rfl | rfl
    · go_enter Tryz.func11, Tryz.ntmps11
      go_wp2_with fail
      go_ret
      refine ⟨?_, rfl⟩
      show Ending.returned (.bool (decide ((n : Int) ≤ 1))) = .returned (.bool (decide (n ≤ 1)))
      congr 2
      exact decide_eq_decide.2 (by omega)
    · go_enter Tryz.func11, Tryz.ntmps11
      go_wp2_with fail
      refine (HS.out _).mono ?_
      rintro e w' ⟨rfl, rfl⟩
      have e1 : ((numSize ((1 : Nat) : Int) : Nat) : Int) = 1 := rfl
      rw [e1]
      go_wp2_with fail
      refine (HS.out _).mono ?_
      rintro e w' ⟨rfl, rfl⟩
      rw [e1]
      go_wp2_with fail
      go_ret
      refine ⟨?_, rfl⟩
      rw [rightB_of 1 n 256 (by omega) (by omega) rfl]
      refine congrArg Ending.returned (congrArg Value.bool ?_)
      exact decide_eq_decide.2 (by omega)
    · go_enter Tryz.func11, Tryz.ntmps11
      go_wp2_with fail
      refine (HS.out _).mono ?_
      rintro e w' ⟨rfl, rfl⟩
      have e1 : ((numSize ((2 : Nat) : Int) : Nat) : Int) = 1 := rfl
      rw [e1]
      go_wp2_with fail
      refine (HS.out _).mono ?_
      rintro e w' ⟨rfl, rfl⟩
      rw [e1]
      go_wp2_with fail
      go_ret
      refine ⟨?_, rfl⟩
      rw [rightB_of 2 n 256 (by omega) (by omega) rfl]
      refine congrArg Ending.returned (congrArg Value.bool ?_)
      exact decide_eq_decide.2 (by omega)
    · go_enter Tryz.func11, Tryz.ntmps11
      go_wp2_with fail
      refine (HS.out _).mono ?_
      rintro e w' ⟨rfl, rfl⟩
      have e1 : ((numSize ((3 : Nat) : Int) : Nat) : Int) = 2 := rfl
      rw [e1]
      go_wp2_with fail
      refine (HS.out _).mono ?_
      rintro e w' ⟨rfl, rfl⟩
      rw [e1]
      go_wp2_with fail
      go_ret
      refine ⟨?_, rfl⟩
      rw [rightB_of 3 n 65536 (by omega) (by omega) rfl]
      refine congrArg Ending.returned (congrArg Value.bool ?_)
      exact decide_eq_decide.2 (by omega)
    · go_enter Tryz.func11, Tryz.ntmps11
      go_wp2_with fail
      refine (HS.out _).mono ?_
      rintro e w' ⟨rfl, rfl⟩
      have e1 : ((numSize ((4 : Nat) : Int) : Nat) : Int) = 2 := rfl
      rw [e1]
      go_wp2_with fail
      refine (HS.out _).mono ?_
      rintro e w' ⟨rfl, rfl⟩
      rw [e1]
      go_wp2_with fail
      go_ret
      refine ⟨?_, rfl⟩
      rw [rightB_of 4 n 65536 (by omega) (by omega) rfl]
      refine congrArg Ending.returned (congrArg Value.bool ?_)
      exact decide_eq_decide.2 (by omega)
    · go_enter Tryz.func11, Tryz.ntmps11
      go_wp2_with fail
      refine (HS.out _).mono ?_
      rintro e w' ⟨rfl, rfl⟩
      have e1 : ((numSize ((5 : Nat) : Int) : Nat) : Int) = 4 := rfl
      rw [e1]
      go_wp2_with fail
      refine (HS.out _).mono ?_
      rintro e w' ⟨rfl, rfl⟩
      rw [e1]
      go_wp2_with fail
      go_ret
      refine ⟨?_, rfl⟩
      rw [rightB_of 5 n 4294967296 (by omega) (by omega) rfl]
      refine congrArg Ending.returned (congrArg Value.bool ?_)
      exact decide_eq_decide.2 (by omega)
    · go_enter Tryz.func11, Tryz.ntmps11
      go_wp2_with fail
      refine (HS.out _).mono ?_
      rintro e w' ⟨rfl, rfl⟩
      have e1 : ((numSize ((6 : Nat) : Int) : Nat) : Int) = 4 := rfl
      rw [e1]
      go_wp2_with fail
      refine (HS.out _).mono ?_
      rintro e w' ⟨rfl, rfl⟩
      rw [e1]
      go_wp2_with fail
      go_ret
      refine ⟨?_, rfl⟩
      rw [rightB_of 6 n 4294967296 (by omega) (by omega) rfl]
      refine congrArg Ending.returned (congrArg Value.bool ?_)
      exact decide_eq_decide.2 (by omega)
    · go_enter Tryz.func11, Tryz.ntmps11
      go_wp2_with fail
      refine (HS.out _).mono ?_
      rintro e w' ⟨rfl, rfl⟩
      have e1 : ((numSize ((7 : Nat) : Int) : Nat) : Int) = 8 := rfl
      rw [e1]
      go_wp2_with fail
      go_ret
      refine ⟨?_, rfl⟩
      rw [rightB_of 7 n 18446744073709551616 (by omega) (by omega) rfl]
      show Ending.returned (.bool true) = .returned (.bool (decide (n < 18446744073709551616)))
      congr 2
      exact (decide_eq_true hn2).symm
    · go_enter Tryz.func11, Tryz.ntmps11
      go_wp2_with fail
      refine (HS.out _).mono ?_
      rintro e w' ⟨rfl, rfl⟩
      have e1 : ((numSize ((8 : Nat) : Int) : Nat) : Int) = 8 := rfl
      rw [e1]
      go_wp2_with fail
      go_ret
      refine ⟨?_, rfl⟩
      rw [rightB_of 8 n 18446744073709551616 (by omega) (by omega) rfl]
      show Ending.returned (.bool true) = .returned (.bool (decide (n < 18446744073709551616)))
      congr 2
      exact (decide_eq_true hn2).symm
    · go_enter Tryz.func11, Tryz.ntmps11
      go_wp2_with fail
      refine (HS.out _).mono ?_
      rintro e w' ⟨rfl, rfl⟩
      have e1 : ((numSize ((9 : Nat) : Int) : Nat) : Int) = 4 := rfl
      rw [e1]
      go_wp2_with fail
      refine (HS.out _).mono ?_
      rintro e w' ⟨rfl, rfl⟩
      rw [e1]
      go_wp2_with fail
      go_ret
      refine ⟨?_, rfl⟩
      rw [rightB_of 9 n 4294967296 (by omega) (by omega) rfl]
      refine congrArg Ending.returned (congrArg Value.bool ?_)
      exact decide_eq_decide.2 (by omega)
    · go_enter Tryz.func11, Tryz.ntmps11
      go_wp2_with fail
      refine (HS.out _).mono ?_
      rintro e w' ⟨rfl, rfl⟩
      have e1 : ((numSize ((10 : Nat) : Int) : Nat) : Int) = 8 := rfl
      rw [e1]
      go_wp2_with fail
      go_ret
      refine ⟨?_, rfl⟩
      rw [rightB_of 10 n 18446744073709551616 (by omega) (by omega) rfl]
      show Ending.returned (.bool true) = .returned (.bool (decide (n < 18446744073709551616)))
      congr 2
      exact (decide_eq_true hn2).symm
end Go.Proofs.YtfplgggepoaajaaGreat

/- What the end of an object leaves, in bytes. -/
namespace Go.Proofs.YtfplgggepoaajaaGreat
open Go.RowKit
set_option linter.unusedVariables false
set_option linter.unusedSimpArgs false

/-- A vtable's fields as they are written. -/
def vtFlds (o : Nat) (l : List Nat) : List UInt8 := l.flatMap fun f : Nat => leI 2 (if f = 0 then 0 else (o : Int) - (f : Int))
theorem vtFlds_length (o : Nat) (l : List Nat) : (vtFlds o l).length = 2 * l.length := by
  unfold vtFlds
  induction l with
  | nil => rfl
  | cons f l ih => rw [List.flatMap_cons, List.length_append, ih, leI_length, List.length_cons]; omega
theorem prep_even (m : BM) (h : m.bytes.length % 2 = 0) : (m.prep 2 0).bytes = m.bytes := prep_id m 2 0 (by unfold algn; omega) (by omega)
theorem vtPut_bytes (o : Nat) (m : BM) (h : m.bytes.length % 2 = 0) : ∀ l : List Nat, (vtPut o l m).bytes = vtFlds o l ++ m.bytes
  | [] => rfl
  | f :: l => by
    have ih := vtPut_bytes o m h l
    rw [vtPut_cons]
    show leI 2 _ ++ ((vtPut o l m).prep 2 0).bytes = _
    rw [prep_even _ (by rw [ih, List.length_append, vtFlds_length]; omega), ih]
    show _ = (leI 2 _ ++ vtFlds o l) ++ m.bytes
    rw [List.append_assoc]
theorem vtPut_least (o : Nat) (m : BM) (h : 2 ≤ m.least) : ∀ (l : List Nat), (vtPut o l m).least = m.least
  | [] => rfl
  | f :: l => by
    rw [vtPut_cons]
    show max (vtPut o l m).least 2 = _
    rw [vtPut_least o m h l]; omega
/-- Ahead of the vtable: the place of the offset to it. -/
theorem vt1_len (st : BSt) : st.vt1.bytes.length = 4 + (padB st.m.bytes.length 4 + st.m.bytes.length) ∧ st.vt1.bytes.length % 4 = 0 := by
  have ha : algn 4 := by unfold algn; omega
  have e : st.vt1.bytes.length = 4 + (st.m.prep 4 0).bytes.length := by
    show (leB 4 _ ++ _).length = _
    rw [List.length_append, leB_length]
  have h := prep_mod st.m 4 0 ha
  have e2 : (st.m.prep 4 0).bytes.length = padB st.m.bytes.length 4 + st.m.bytes.length := st.m.prep_len 4 0 ha
  omega
theorem vt4_bytes (st : BSt) (t : List Nat) : (st.vt4 t).bytes = leI 2 (((t.length + 2) * 2 : Nat) : Int) ++ (leI 2 ((st.vt1.bytes.length : Int) - st.oend) ++ (vtFlds st.vt1.bytes.length t ++ st.vt1.bytes)) := by
  obtain ⟨h1, h2⟩ := vt1_len st
  have hp := vtPut_bytes st.vt1.bytes.length st.vt1 (by omega) t
  have hl := vtFlds_length st.vt1.bytes.length t
  unfold BSt.vt4
  show leI 2 _ ++ (((vtPut st.vt1.bytes.length t st.vt1).prep 2 0).put (leI 2 ((st.vt1.bytes.length : Int) - st.oend)) |>.prep 2 0).bytes = _
  have e1 : ((vtPut st.vt1.bytes.length t st.vt1).prep 2 0).bytes = vtFlds st.vt1.bytes.length t ++ st.vt1.bytes := by
    rw [prep_even _ (by rw [hp, List.length_append, hl]; omega), hp]
  have e2 : (((vtPut st.vt1.bytes.length t st.vt1).prep 2 0).put (leI 2 ((st.vt1.bytes.length : Int) - st.oend))).bytes = leI 2 ((st.vt1.bytes.length : Int) - st.oend) ++ (vtFlds st.vt1.bytes.length t ++ st.vt1.bytes) := by
    show leI 2 _ ++ ((vtPut st.vt1.bytes.length t st.vt1).prep 2 0).bytes = _
    rw [e1]
  rw [prep_even _ (by rw [e2]; simp only [List.length_append, leI_length, hl]; omega), e2]
/-- The bytes that an object ends with: the offset to its vtable, zeros, what it holds. -/
def objBytes (st : BSt) (soff : Int) : List UInt8 := leI 4 soff ++ (List.replicate (padB st.m.bytes.length 4) 0 ++ st.m.bytes)
theorem objBytes_length (st : BSt) (soff : Int) : (objBytes st soff).length = st.vt1.bytes.length := by
  rw [(vt1_len st).1]
  unfold objBytes
  simp only [List.length_append, leI_length, List.length_replicate]
theorem vt1_bytes_eq (st : BSt) : st.vt1.bytes = leB 4 ((st.m.prep 4 0).bytes.length + 4) ++ (List.replicate (padB st.m.bytes.length 4) 0 ++ st.m.bytes) := rfl
/-- An object that is ended with a vtable of its own. -/
theorem endObj_fresh (st : BSt) (hn : st.nested = true) (hf : vtFind st.vt1 st.vt1.bytes.length (trimZ (st.vtab.getD [])) st.vts = none) :
    ∃ st' o, o = st.vt1.bytes.length ∧ st.endObj = some (o, st') ∧ st'.nested = false ∧ st'.fin = st.fin ∧ st'.m.least = max st.m.least 4 ∧ st'.shared = st.shared ∧ st'.vts = st.vts ++ [2 * (trimZ (st.vtab.getD [])).length + 4 + o] ∧
      st'.m.bytes = leI 2 (((2 * (trimZ (st.vtab.getD [])).length + 4 : Nat) : Int)) ++ (leI 2 ((o : Int) - st.oend) ++ (vtFlds o (trimZ (st.vtab.getD [])) ++ objBytes st ((2 * (trimZ (st.vtab.getD [])).length + 4 : Nat) : Int))) ∧
      st'.m.bytes.length = 2 * (trimZ (st.vtab.getD [])).length + 4 + o ∧ st'.vtab = st.vtab.map (fun _ => []) := by
  obtain ⟨t, ht⟩ : ∃ t, t = trimZ (st.vtab.getD []) := ⟨_, rfl⟩
  rw [← ht] at hf ⊢
  have hb := vt4_bytes st t
  have hfl := vtFlds_length st.vt1.bytes.length t
  have hl4 : (st.vt4 t).bytes.length = 2 * t.length + 4 + st.vt1.bytes.length := by
    rw [hb]; simp only [List.length_append, leI_length, hfl]; omega
  have hw : st.writeVt = { st with m := (st.vt4 t).over st.vt1.bytes.length (leI 4 (((st.vt4 t).bytes.length : Int) - st.vt1.bytes.length)), vtab := st.vtab.map (fun _ => []), vts := st.vts ++ [(st.vt4 t).bytes.length] } := by
    unfold BSt.writeVt
    rw [← ht, hf]
  have hov : ((st.vt4 t).over st.vt1.bytes.length (leI 4 (((st.vt4 t).bytes.length : Int) - st.vt1.bytes.length))).bytes = leI 2 (((2 * t.length + 4 : Nat) : Int)) ++ (leI 2 ((st.vt1.bytes.length : Int) - st.oend) ++ (vtFlds st.vt1.bytes.length t ++ objBytes st ((2 * t.length + 4 : Nat) : Int))) := by
    have e := over_app (st.vt4 t) (leI 2 (((t.length + 2) * 2 : Nat) : Int) ++ (leI 2 ((st.vt1.bytes.length : Int) - st.oend) ++ vtFlds st.vt1.bytes.length t)) (leB 4 ((st.m.prep 4 0).bytes.length + 4)) (List.replicate (padB st.m.bytes.length 4) 0 ++ st.m.bytes) (leI 4 (((st.vt4 t).bytes.length : Int) - st.vt1.bytes.length)) st.vt1.bytes.length
      (by rw [hb, vt1_bytes_eq]; simp only [List.append_assoc]) (by rw [vt1_bytes_eq, List.length_append]) (by rw [leI_length, leB_length])
    rw [e, hl4, show (((2 * t.length + 4 + st.vt1.bytes.length : Nat) : Int) - st.vt1.bytes.length) = ((2 * t.length + 4 : Nat) : Int) by omega, show (t.length + 2) * 2 = 2 * t.length + 4 by omega]
    unfold objBytes
    simp only [List.append_assoc]
  refine ⟨{ st.writeVt with nested := false }, _, rfl, ?_, rfl, ?_, ?_, ?_, ?_, ?_, ?_, ?_⟩
  · unfold BSt.endObj
    rw [if_pos hn]
  · rw [hw]
  · rw [hw]
    show (st.vt4 t).least = _
    have h1 : st.vt1.least = max st.m.least 4 := rfl
    show max (max (vtPut st.vt1.bytes.length t st.vt1).least 2) 2 = _
    rw [vtPut_least _ _ (by omega), h1]; omega
  · rw [hw]
  · rw [hw]
    show st.vts ++ [(st.vt4 t).bytes.length] = _
    rw [hl4]
  · rw [hw]; exact hov
  · rw [hw]
    show ((st.vt4 t).over _ _).bytes.length = _
    rw [BM.over_len _ _ _ (by rw [leI_length]; have := vt1_len st; omega) (by omega), hl4]
  · rw [hw]
/-- An object that is ended with a vtable that is there already. -/
theorem endObj_found (st : BSt) (v : Nat) (hn : st.nested = true) (hf : vtFind st.vt1 st.vt1.bytes.length (trimZ (st.vtab.getD [])) st.vts = some v) :
    ∃ st' o, o = st.vt1.bytes.length ∧ st.endObj = some (o, st') ∧ st'.nested = false ∧ st'.fin = st.fin ∧ st'.m.least = max st.m.least 4 ∧ st'.shared = st.shared ∧ st'.vts = st.vts ∧
      st'.m.bytes = objBytes st ((v : Int) - o) ∧ st'.m.bytes.length = o ∧ st'.vtab = st.vtab.map (fun _ => []) := by
  have hw : st.writeVt = { st with m := st.vt1.over st.vt1.bytes.length (leI 4 ((v : Int) - st.vt1.bytes.length)), vtab := st.vtab.map (fun _ => []) } := by
    unfold BSt.writeVt
    rw [hf]
  have hov : (st.vt1.over st.vt1.bytes.length (leI 4 ((v : Int) - st.vt1.bytes.length))).bytes = objBytes st ((v : Int) - st.vt1.bytes.length) := by
    have e := over_app st.vt1 [] (leB 4 ((st.m.prep 4 0).bytes.length + 4)) (List.replicate (padB st.m.bytes.length 4) 0 ++ st.m.bytes) (leI 4 ((v : Int) - st.vt1.bytes.length)) st.vt1.bytes.length
      (by rw [vt1_bytes_eq]; rfl) (by rw [vt1_bytes_eq, List.length_append]) (by rw [leI_length, leB_length])
    rw [e]; rfl
  refine ⟨{ st.writeVt with nested := false }, _, rfl, ?_, rfl, ?_, ?_, ?_, ?_, ?_, ?_, ?_⟩
  · unfold BSt.endObj
    rw [if_pos hn]
  · rw [hw]
  · rw [hw]; rfl
  · rw [hw]
  · rw [hw]
  · rw [hw]; exact hov
  · rw [hw]
    show (st.vt1.over _ _).bytes.length = _
    rw [hov, objBytes_length]
  · rw [hw]
end Go.Proofs.YtfplgggepoaajaaGreat

/- A slice of numbers that came in, as the walks are told of it. -/
namespace Go.Proofs.YtfplgggepoaajaaGreat
open Go.RowKit
set_option linter.unusedVariables false

/-- A slice of numbers of one cell each that came in: nil, or a row of 'len' numbers. -/
def NumRow (w : World) (k : IntKind) (ao : Option Addr) (len cap : Nat) (xs : List Nat) : Prop :=
  xs.length = len ∧ (len = 0 ∨ ∃ b o, ao = some ⟨b, o, none⟩ ∧ b < w.heap.size ∧ ∀ (i x : Nat), xs[i]? = some x → w.cell? ⟨b, o + i, none⟩ = some (.int k x))

theorem numRow_of (W : World) (k : IntKind) (x : Addr) (len cap : Nat) (zs : List Int) (B : Nat) (hl : len ≤ cap) (hz : zs.length = cap) (hcell : ∀ i, i < zs.length → W.cell? (x.add i) = some (.int k (zs.getD i 0)))
    (hb : ∀ n ∈ zs, 0 ≤ n ∧ n < (B : Nat)) : ∃ xs : List Nat, NumRow W k (some x) len cap xs ∧ ∀ y ∈ xs, y < B := by
  refine ⟨(zs.take len).map Int.toNat, ⟨by simp; omega, ?_⟩, fun y hy => ?_⟩
  · by_cases h0 : len = 0
    · exact .inl h0
    · right
      have hc0 := hcell 0 (by omega)
      have hs : x.spot = none := World.cell?_spot hc0
      obtain ⟨b, o, sp⟩ := x
      obtain rfl : sp = none := hs
      refine ⟨b, o, rfl, World.block_lt_of_cell? _ _ hc0, fun i y hi => ?_⟩
      rw [List.getElem?_map] at hi
      cases hg : (zs.take len)[i]? with
      | none => rw [hg] at hi; cases hi
      | some q =>
        rw [hg] at hi
        simp only [Option.map_some, Option.some.injEq] at hi
        rw [List.getElem?_take] at hg
        split at hg
        · have hil : i < zs.length := (List.getElem?_eq_some_iff.1 hg).1
          have h1 := hcell i hil
          have h2 : zs.getD i 0 = q := by rw [List.getD_eq_getElem?_getD, hg]; rfl
          rw [h2] at h1
          have hq := hb q (List.mem_of_getElem? hg)
          have h3 : ((y : Nat) : Int) = q := by omega
          rw [h3]
          have e : Addr.add ⟨b, o, none⟩ i = ⟨b, o + i, none⟩ := by unfold Addr.add; split <;> simp_all
          rw [← e]; exact h1
        · cases hg
  · obtain ⟨q, hq, rfl⟩ := List.mem_map.1 hy
    have := hb q (List.mem_of_mem_take hq)
    omega
end Go.Proofs.YtfplgggepoaajaaGreat

/- FnBuildTwice, plain: two objects with the same fields of one kind, one behind the other, have one vtable. -/
namespace Go.Proofs.YtfplgggepoaajaaGreat
open Go.RowKit
set_option linter.unusedVariables false
set_option linter.unusedSimpArgs false

def twStart (n : Nat) : BS := ⟨0, 0, n, 0, 0, 0, 0, 0, 0, 0, []⟩
def twEnd : BS := ⟨1, 0, 0, 0, 0, 0, 0, 0, 0, 0, []⟩
def twA (k n : Nat) : BS := ⟨2, k, 0, n, 0, 0, 0, 0, 0, 0, []⟩
def twB (i : Nat) : BS := ⟨9, 0, i, 0, 0, 0, 0, 0, 0, 0, []⟩
def twPrep : BS := ⟨16, 0, 0, 0, 0, 0, 0, 8, 0, 0, []⟩
/-- The steps of the fields i, i + 1, .. -/
def twF (k : Nat) : Nat → List Nat → List BS
  | _, [] => []
  | i, n :: r => twA k n :: twB i :: twF k (i + 1) r
theorem twF_length (k : Nat) : ∀ (i : Nat) (l : List Nat), (twF k i l).length = 2 * l.length
  | _, [] => rfl
  | i, n :: r => by
    have := twF_length k (i + 1) r
    simp only [twF, List.length_cons, this]; omega
theorem twF_snoc (k : Nat) : ∀ (i : Nat) (l : List Nat) (n : Nat), twF k i (l ++ [n]) = twF k i l ++ [twA k n, twB (i + l.length)]
  | i, [], n => rfl
  | i, x :: r, n => by
    have := twF_snoc k (i + 1) r n
    simp only [twF, List.cons_append, this, List.length_cons]
    rw [show i + 1 + r.length = i + (r.length + 1) by omega]
def twO (k : Nat) (l : List Nat) : List BS := twStart l.length :: (twF k 0 l ++ [twEnd])
theorem twO_length (k : Nat) (l : List Nat) : (twO k l).length = 2 * l.length + 2 := by
  simp only [twO, List.length_cons, List.length_append, twF_length, List.length_nil]
/-- The places of the fields. -/
def twT (z b : Nat) : Nat → Nat → List Nat
  | _, 0 => []
  | i, n + 1 => (b + (i + 1) * z) :: twT z b (i + 1) n
theorem twT_length (z b : Nat) : ∀ i n, (twT z b i n).length = n
  | _, 0 => rfl
  | i, n + 1 => by rw [twT, List.length_cons, twT_length]
theorem twT_mem (z b : Nat) : ∀ i n, ∀ f ∈ twT z b i n, b + (i + 1) * z ≤ f ∧ f ≤ b + (i + n) * z
  | _, 0, f, h => by cases h
  | i, n + 1, f, h => by
    have e : (i + 1) * z ≤ (i + (n + 1)) * z := Nat.mul_le_mul_right _ (by omega)
    rcases List.mem_cons.1 h with rfl | h
    · exact ⟨Nat.le_refl _, by omega⟩
    · obtain ⟨h1, h2⟩ := twT_mem z b (i + 1) n f h
      have e2 : (i + 1) * z ≤ (i + 1 + 1) * z := Nat.mul_le_mul_right _ (by omega)
      rw [show i + 1 + n = i + (n + 1) by omega] at h2
      exact ⟨by omega, h2⟩
theorem mRunB_two {s s2 : BS} {rest : List BS} {an : List BAns} {st st1 st2 : BSt} (h1 : ∀ o, mStep st s o = some (0, [], st1)) (h2 : ∀ o, mStep st1 s2 o = some (0, [], st2)) :
    mRunB (s :: s2 :: rest) an st = mRunB rest (an ++ [⟨0, st1.m.bytes.length, [], false⟩, ⟨0, st2.m.bytes.length, [], false⟩]) st2 := by
  rw [mRunB_cons (h1 _), mRunB_cons (h2 _), List.append_assoc]; rfl
/-- The fields, put one behind the other. -/
theorem tw_fields (k b : Nat) (hk : k ≤ 10) (hb : b % 8 = 0) (rest : List BS) : ∀ (l : List Nat) (i : Nat) (pre : List Nat) (st : BSt) (an : List BAns), pre.length = i → st.m.bytes.length = b + i * numSize k → st.vtab = some (pre ++ List.replicate l.length 0) →
    ∃ st' ad xs, mRunB (twF k i l ++ rest) an st = mRunB rest (an ++ ad) st' ∧ ad.length = 2 * l.length ∧ st'.m.bytes = xs ++ st.m.bytes ∧ st'.m.bytes.length = b + (i + l.length) * numSize k ∧ st'.vtab = some (pre ++ twT (numSize k) b i l.length) ∧
      st'.nested = st.nested ∧ st'.vts = st.vts ∧ st'.oend = st.oend
  | [], i, pre, st, an, hp, hbl, hv => ⟨st, [], [], by simp [twF], rfl, rfl, hbl, hv, rfl, rfl, rfl⟩
  | n :: r, i, pre, st, an, hp, hbl, hv => by
    have ha := numSize_algn (k := k) (by omega) (by omega)
    obtain ⟨z, hz⟩ : ∃ z, z = numSize k := ⟨_, rfl⟩
    rw [← hz] at ha hbl ⊢
    have hmod : (st.m.bytes.length + 0) % z = 0 := by
      rw [Nat.add_zero, hbl, Nat.add_mul_mod_self_right]
      have hz4 : z ≤ 8 := by rw [hz]; exact numSize_le _
      unfold algn at ha
      rcases ha with rfl | rfl | rfl | rfl | rfl <;> omega
    obtain ⟨m, hm⟩ : ∃ m, m = (st.m.prep z 0).put (numB k n) := ⟨_, rfl⟩
    have hmb : m.bytes = numB k n ++ st.m.bytes := by
      rw [hm]
      show numB k n ++ (st.m.prep z 0).bytes = _
      rw [prep_id _ _ _ ha hmod]
    have hml : m.bytes.length = b + (i + 1) * z := by
      rw [hmb, List.length_append, numB_length, hbl, ← hz, Nat.add_mul]; omega
    let S1 : BSt := { st with m := m }
    let S2 : BSt := { st with m := m, vtab := some ((pre ++ [b + (i + 1) * z]) ++ List.replicate r.length 0) }
    have e1 : ∀ o, mStep st (twA k n) o = some (0, [], S1) := by
      intro o
      show some (0, [], ({ st with m := (st.m.prep (numSize k) 0).put (numB k n) } : BSt)) = _
      rw [← hz, ← hm]
    have e2 : ∀ o, mStep S1 (twB i) o = some (0, [], S2) := by
      intro o
      show unitN (S1.slot (i : Nat)) = _
      have : S1.slot (i : Nat) = some S2 := by
        unfold BSt.slot
        show (match st.vtab with | none => none | some l => if (0 : Int) ≤ (i : Nat) ∧ ((i : Nat) : Int).toNat < l.length then some { S1 with vtab := some (l.set ((i : Nat) : Int).toNat m.bytes.length) } else none) = _
        rw [hv]
        show (if _ then _ else _) = _
        rw [if_pos ⟨by omega, by simp [hp]⟩, Int.toNat_natCast, hml, List.length_cons, List.replicate_succ]
        show some ({ st with m := m, vtab := some _ } : BSt) = some ({ st with m := m, vtab := some _ } : BSt)
        rw [← hp, List.set_append_right _ _ (by omega), Nat.sub_self, List.set_cons_zero, List.append_assoc]; rfl
      rw [this]; rfl
    obtain ⟨st', ad, xs, he, hal, hxs, hl', hv', h1, h2, h3⟩ := tw_fields k b hk hb rest r (i + 1) (pre ++ [b + (i + 1) * z]) S2 (an ++ [⟨0, S1.m.bytes.length, [], false⟩, ⟨0, S2.m.bytes.length, [], false⟩]) (by simp [hp]) (by rw [← hz]; exact hml) rfl
    refine ⟨st', [⟨0, S1.m.bytes.length, [], false⟩, ⟨0, S2.m.bytes.length, [], false⟩] ++ ad, xs ++ numB k n, ?_, ?_, ?_, ?_, ?_, h1, h2, h3⟩
    · show mRunB (twA k n :: twB i :: (twF k (i + 1) r ++ rest)) an st = _
      rw [mRunB_two e1 e2, he, List.append_assoc]
    · simp only [List.length_append, List.length_cons, List.length_nil, hal]; omega
    · rw [hxs, List.append_assoc]; show xs ++ m.bytes = _; rw [hmb]
    · rw [hl', ← hz, List.length_cons]; congr 2; omega
    · rw [hv', ← hz, List.append_assoc]; rfl
theorem trimZ_full {l : List Nat} (h : ∀ f ∈ l, f ≠ 0) : trimZ l = l := by
  rcases List.eq_nil_or_concat l with rfl | ⟨a, x, rfl⟩
  · rfl
  · rw [List.concat_eq_append, trimZ_snoc _ _ (h x (by simp))]
theorem vtSame_shift (o d : Nat) (z b : Nat) (hz : 0 < z) : ∀ (n i : Nat), b + (i + n) * z ≤ o → o < 65536 → vtSame (o + d) (twT z (b + d) i n) (vtFlds o (twT z b i n)) = true
  | 0, _, _, _ => rfl
  | n + 1, i, h, ho => by
    have e : (i + 1) * z ≤ (i + (n + 1)) * z := Nat.mul_le_mul_right _ (by omega)
    have ih := vtSame_shift o d z b hz n (i + 1) (by rw [show i + 1 + n = i + (n + 1) by omega]; exact h) ho
    unfold vtFlds at ih ⊢
    simp only [twT, List.flatMap_cons]
    obtain ⟨x, hx, hx2⟩ : ∃ x : Nat, x < 65536 ∧ ((if b + (i + 1) * z = 0 then 0 else (o : Int) - ((b + (i + 1) * z : Nat) : Int)) = (x : Int)) ∧ vtEnt (o + d) (b + d + (i + 1) * z) x = true := by
      have h0 : 0 < (i + 1) * z := Nat.mul_pos (by omega) hz
      rw [if_neg (by omega)]
      refine ⟨o - (b + (i + 1) * z), by omega, by omega, ?_⟩
      unfold vtEnt
      simp only [Bool.or_eq_true, decide_eq_true_eq]
      right; omega
    rw [hx2.1, leI_nat]
    show (vtEnt (o + d) (b + d + (i + 1) * z) ((UInt8.ofNat x).toNat + 256 * (UInt8.ofNat (x / 256)).toNat) && _) = true
    have : (UInt8.ofNat x).toNat + 256 * (UInt8.ofNat (x / 256)).toNat = x := by
      rw [UInt8.toNat_ofNat', UInt8.toNat_ofNat']; omega
    rw [this, hx2.2, Bool.true_and]
    exact ih
theorem vtBytes_front (D : List UInt8) (m : BM) (ys F O : List UInt8) (T : Nat) (x : Int) (hm : m.bytes = ys ++ D) (hD : D = leI 2 (T : Int) ++ (leI 2 x ++ (F ++ O))) (hT : T = F.length + 4) (hT2 : T < 65536) : vtBytes m D.length = F := by
  have hf : fromEnd m.bytes D.length = D := by
    rw [hm, fromEnd_append _ _ _ (Nat.le_refl _)]
    unfold fromEnd; rw [Nat.sub_self]; rfl
  have hl : vtLen m D.length = T := by
    unfold vtLen
    rw [hf, hD, List.take_left' (by rw [leI_length]), leI_nat, le_leB]; omega
  unfold vtBytes
  rw [hl, hf, hD]
  have e : leI 2 (T : Int) ++ (leI 2 x ++ (F ++ O)) = (leI 2 (T : Int) ++ leI 2 x ++ F) ++ O := by simp only [List.append_assoc]
  rw [e, List.take_left' (by simp only [List.length_append, leI_length]; omega)]
  exact List.drop_left' (by simp only [List.length_append, leI_length])
/-- What is to be read of the bytes and the answers. -/
structure TwRes (n : Nat) (an : List BAns) (D : List UInt8) (o1 o2 v : Nat) : Prop where
  len : an.length = 4 * n + 5
  a1 : ∃ x, an[2 * n + 1]? = some x ∧ x.r = o1
  a2 : ∃ x, an[4 * n + 4]? = some x ∧ x.r = o2 ∧ x.o = o2
  lt : o1 < o2
  size : D.length = o2
  v0 : o1 < v
  v1 : v < o2
  small : o2 < 100000
  front : ∃ b, D = leI 4 ((v : Int) - o2) ++ b
  first : ∃ a b, D = a ++ (leI 4 ((v : Int) - o1) ++ b) ∧ a.length = o2 - o1
theorem tw_run (k : Nat) (hk : k ≤ 10) (l1 l2 : List Nat) (n : Nat) (h1 : l1.length = n) (h2 : l2.length = n) (hn1 : 1 ≤ n) (hn : n ≤ 40) :
    ∃ an st' o1 o2 v, mScript 0 (twO k l1 ++ twPrep :: twO k l2) = (an, some st') ∧ TwRes n an st'.m.bytes o1 o2 v := by
  have ha := numSize_algn (k := k) (by omega) (by omega)
  have hz8 : numSize k ≤ 8 := numSize_le _
  have hz0 : 0 < numSize k := by unfold algn at ha; omega
  obtain ⟨z, hz⟩ : ∃ z, z = numSize k := ⟨_, rfl⟩
  rw [← hz] at ha hz8 hz0
  have hnz : n * z ≤ 320 := by
    have := Nat.mul_le_mul hn hz8
    omega
  let A0 : BSt := ⟨⟨0, 1, []⟩, some (List.replicate n 0), 0, [], true, false, none⟩
  have e0 : ∀ o, mStep (st0 0) (twStart n) o = some (0, [], A0) := fun o => rfl
  -- the first object's fields
  obtain ⟨A1, ad1, xs1, f1, al1, x1, L1, v1, n1, t1, d1⟩ := tw_fields k 0 hk rfl (twEnd :: twPrep :: twO k l2) l1 0 [] A0 ([] ++ [⟨0, A0.m.bytes.length, [], false⟩]) rfl (by show 0 = _; omega) (by rw [h1]; rfl)
  rw [h1, ← hz, Nat.zero_add, Nat.zero_add] at L1
  rw [h1, ← hz, List.nil_append] at v1
  have hm1 : ∀ f ∈ twT z 0 0 n, f ≠ 0 := by
    intro f hf
    have := (twT_mem z 0 0 n f hf).1
    have h0 : 0 < (0 + 1) * z := Nat.mul_pos (by omega) hz0
    omega
  have htr1 : trimZ (A1.vtab.getD []) = twT z 0 0 n := by rw [v1]; exact trimZ_full hm1
  obtain ⟨A2, o1, ho1, g1, g2, g3, g4, g5, g6, g7, g8, g9⟩ := endObj_fresh A1 n1 (by rw [t1]; rfl)
  rw [htr1, twT_length] at g6 g7 g8
  have hv1 := (vt1_len A1).1
  rw [← ho1, L1] at hv1
  have hp1 : padB (n * z) 4 ≤ 3 := by unfold padB; omega
  -- the alignment
  obtain ⟨A3, hA3⟩ : ∃ A3, A3 = { A2 with m := A2.m.prep 8 0 } := ⟨_, rfl⟩
  have e3 : ∀ o, mStep A2 twPrep o = some (0, [], A3) := by intro o; rw [hA3]; rfl
  have hb3 : A3.m.bytes = List.replicate (A2.m.pad 8 0) 0 ++ A2.m.bytes := by rw [hA3]; rfl
  have hB := prep_mod A2.m 8 0 (by unfold algn; omega)
  have hB8 : A3.m.bytes.length % 8 = 0 := by rw [hA3]; exact hB
  have hpd : A2.m.pad 8 0 < 8 := A2.m.pad_lt 8 _ (by unfold algn; omega)
  have hBl : A3.m.bytes.length = A2.m.pad 8 0 + A2.m.bytes.length := by rw [hb3, List.length_append, List.length_replicate]
  have hn3 : A3.nested = false := by rw [hA3]; exact g2
  obtain ⟨B, hBe⟩ : ∃ B, B = A3.m.bytes.length := ⟨_, rfl⟩
  rw [← hBe] at hB8 hBl
  let A4 : BSt := { A3 with nested := true, vtab := some (List.replicate n 0), oend := A3.m.bytes.length }
  have e4 : ∀ o, mStep A3 (twStart n) o = some (0, [], A4) := by
    intro o
    show unitN (A3.startObj n) = _
    unfold BSt.startObj
    rw [hn3]; rfl
  obtain ⟨A5, ad2, xs2, f2, al2, x2, L2, v2, n2, t2, d2⟩ := tw_fields k B hk hB8 [twEnd] l2 0 [] A4 ([] ++ [⟨0, A0.m.bytes.length, [], false⟩] ++ ad1 ++ [⟨o1, A2.m.bytes.length, [], false⟩] ++ [⟨0, A3.m.bytes.length, [], false⟩] ++ [⟨0, A4.m.bytes.length, [], false⟩]) rfl (by show A3.m.bytes.length = _; omega) (by rw [h2]; rfl)
  rw [h2, ← hz, Nat.zero_add] at L2
  rw [h2, ← hz, List.nil_append] at v2
  have hm2 : ∀ f ∈ twT z B 0 n, f ≠ 0 := by
    intro f hf
    have := (twT_mem z B 0 n f hf).1
    have h0 : 0 < (0 + 1) * z := Nat.mul_pos (by omega) hz0
    omega
  have htr2 : trimZ (A5.vtab.getD []) = twT z B 0 n := by rw [v2]; exact trimZ_full hm2
  have hv2 := (vt1_len A5).1
  rw [L2] at hv2
  have hp2 : padB (B + n * z) 4 = padB (n * z) 4 := by unfold padB; omega
  have hvts : A5.vts = [2 * n + 4 + o1] := by
    rw [t2]; show A3.vts = _
    rw [hA3]; show A2.vts = _
    rw [g6, t1]; rfl
  have hb5 : A5.m.bytes = xs2 ++ (List.replicate (A2.m.pad 8 0) 0 ++ A2.m.bytes) := by rw [x2]; show xs2 ++ A3.m.bytes = _; rw [hb3]
  have hfind : vtFind A5.vt1 A5.vt1.bytes.length (trimZ (A5.vtab.getD [])) A5.vts = some (2 * n + 4 + o1) := by
    rw [htr2, hvts]
    have hs : vtSame A5.vt1.bytes.length (twT z B 0 n) (vtBytes A5.vt1 (2 * n + 4 + o1)) = true := by
      have hfl := vtFlds_length o1 (twT z 0 0 n)
      rw [twT_length] at hfl
      have := vtBytes_front A2.m.bytes A5.vt1 (leB 4 ((A5.m.prep 4 0).bytes.length + 4) ++ (List.replicate (padB A5.m.bytes.length 4) 0 ++ (xs2 ++ List.replicate (A2.m.pad 8 0) 0))) (vtFlds o1 (twT z 0 0 n)) (objBytes A1 ((2 * n + 4 : Nat) : Int)) (2 * n + 4) ((o1 : Int) - A1.oend) (by
        rw [vt1_bytes_eq, hb5]; simp only [List.append_assoc]) g7 (by omega) (by omega)
      rw [g8] at this
      rw [this, show A5.vt1.bytes.length = o1 + B by omega]
      have := vtSame_shift o1 B z 0 hz0 n 0 (by rw [Nat.zero_add, Nat.zero_add]; omega) (by omega)
      rwa [Nat.zero_add] at this
    show List.find? _ [_] = _
    rw [List.find?_cons, hs]
  obtain ⟨A6, o2, ho2, q1, q2, q3, q4, q5, q6, q7, q8, q9⟩ := endObj_found A5 _ n2 hfind
  refine ⟨[] ++ [⟨0, A0.m.bytes.length, [], false⟩] ++ ad1 ++ [⟨o1, A2.m.bytes.length, [], false⟩] ++ [⟨0, A3.m.bytes.length, [], false⟩] ++ [⟨0, A4.m.bytes.length, [], false⟩] ++ ad2 ++ [⟨o2, A6.m.bytes.length, [], false⟩], A6, o1, o2, 2 * n + 4 + o1, ?_, ?_⟩
  · show mRunB (twStart l1.length :: (twF k 0 l1 ++ [twEnd]) ++ twPrep :: twO k l2) [] (st0 0) = _
    rw [h1]
    show mRunB (twStart n :: ((twF k 0 l1 ++ [twEnd]) ++ twPrep :: twO k l2)) [] (st0 0) = _
    rw [mRunB_cons (e0 _), List.append_assoc]
    show mRunB (twF k 0 l1 ++ (twEnd :: twPrep :: twO k l2)) _ _ = _
    rw [f1, mRunB_cons (r := o1) (t := []) (st' := A2) (show mStep A1 twEnd _ = _ by show numN A1.endObj = _; rw [g1]; rfl), mRunB_cons (e3 _)]
    show mRunB (twStart l2.length :: (twF k 0 l2 ++ [twEnd])) _ _ = _
    rw [h2, mRunB_cons (e4 _), f2, mRunB_cons (r := o2) (t := []) (st' := A6) (show mStep A5 twEnd _ = _ by show numN A5.endObj = _; rw [q1]; rfl)]
    rfl
  · rw [h1] at al1
    rw [h2] at al2
    have hl6 : A6.m.bytes.length = o2 := q8
    refine ⟨?_, ?_, ?_, by omega, q8, by omega, by omega, by omega, ?_, ?_⟩
    · simp only [List.length_append, List.length_cons, List.length_nil, al1, al2]; omega
    · refine ⟨⟨o1, A2.m.bytes.length, [], false⟩, ?_, rfl⟩
      have e : ∀ (u v : List BAns) (x : BAns) (j : Nat), u.length = j → (u ++ (x :: v))[j]? = some x := by
        intro u v x j hj; subst hj; simp
      simp only [List.append_assoc, List.nil_append, List.cons_append]
      exact e (⟨0, A0.m.bytes.length, [], false⟩ :: ad1) _ _ _ (by rw [List.length_cons, al1])
    · refine ⟨⟨o2, A6.m.bytes.length, [], false⟩, ?_, rfl, hl6⟩
      rw [List.getElem?_append_right (by simp only [List.length_append, List.length_cons, List.length_nil, al1, al2]; omega)]
      simp only [List.length_append, List.length_cons, List.length_nil, al1, al2]
      rw [show 4 * n + 4 - (0 + 1 + 2 * n + 1 + 1 + 1 + 2 * n) = 0 by omega]; rfl
    · exact ⟨_, q7⟩
    · rw [q7]
      unfold objBytes at g7 ⊢
      obtain ⟨P, hP⟩ : ∃ P, P = padB A5.m.bytes.length 4 := ⟨_, rfl⟩
      rw [← hP, hb5, g7]
      rw [L2, hp2] at hP
      refine ⟨leI 4 (((2 * n + 4 + o1 : Nat) : Int) - o2) ++ (List.replicate P 0 ++ (xs2 ++ (List.replicate (A2.m.pad 8 0) 0 ++ (leI 2 ((2 * n + 4 : Nat) : Int) ++ (leI 2 ((o1 : Int) - A1.oend) ++ vtFlds o1 (twT z 0 0 n)))))), List.replicate (padB A1.m.bytes.length 4) 0 ++ A1.m.bytes, ?_, ?_⟩
      · rw [show ((2 * n + 4 + o1 : Nat) : Int) - (o1 : Int) = ((2 * n + 4 : Nat) : Int) by omega]
        simp only [List.append_assoc]
      · have hfl := vtFlds_length o1 (twT z 0 0 n)
        rw [twT_length] at hfl
        have hx2 : xs2.length = n * z := by
          have := congrArg List.length hb5
          rw [L2, List.length_append, List.length_append, List.length_replicate] at this
          omega
        simp only [List.length_append, leI_length, List.length_replicate, hfl, hx2]
        omega
end Go.Proofs.YtfplgggepoaajaaGreat

/- FnBuildTwice's function value: where an object's vtable lies. -/
namespace Go.Proofs.YtfplgggepoaajaaGreat
open Go.RowKit
set_option linter.unusedVariables false
set_option linter.unusedSimpArgs false

theorem leI4_mod (x : Int) : leI 4 x = leB 4 (x % 4294967296).toNat := by
  rw [← leI_nat]
  simp only [leI]
  have h : (((x % 4294967296).toNat : Nat) : Int) = x % 4294967296 := by omega
  rw [h, show x % 4294967296 % 256 = x % 256 by omega, show x % 4294967296 / 256 % 256 = x / 256 % 256 by omega, show x % 4294967296 / 256 / 256 % 256 = x / 256 / 256 % 256 by omega, show x % 4294967296 / 256 / 256 / 256 % 256 = x / 256 / 256 / 256 % 256 by omega]
/-- Four bytes at a place, as they are walked. -/
structure TwAt (DB : ByteArray) (p : Nat) (d : Int) : Prop where
  lt : p + 4 ≤ DB.size
  small : DB.size < 100000
  d1 : -100000 < d
  d2 : d < 100000
  x : ∃ x0 x1 x2 x3 : UInt8, IntKind.i32.wrap ((le [x0, x1, x2, x3] : Nat) : Int) = d ∧ (∀ w, (Instr.index 9 (.string DB) (.int .i64 p)).run Tryz.prog w = .ok (.int .u8 (x0.toNat : Int)) w) ∧ (∀ w, (Instr.index 9 (.string DB) (.int .i64 ((p : Int) + 1))).run Tryz.prog w = .ok (.int .u8 (x1.toNat : Int)) w) ∧
    (∀ w, (Instr.index 9 (.string DB) (.int .i64 ((p : Int) + 2))).run Tryz.prog w = .ok (.int .u8 (x2.toNat : Int)) w) ∧ (∀ w, (Instr.index 9 (.string DB) (.int .i64 ((p : Int) + 3))).run Tryz.prog w = .ok (.int .u8 (x3.toNat : Int)) w)
theorem twAt_of {D a b : List UInt8} {d : Int} (h : D = a ++ (leI 4 d ++ b)) (hs : D.length < 100000) (h1 : -100000 < d) (h2 : d < 100000) : TwAt (strOf D) a.length d := by
  have hl : D.length = a.length + (4 + b.length) := by rw [h]; simp [leI_length]
  rw [leI4_mod] at h
  obtain ⟨x0, x1, x2, x3, hx⟩ : ∃ x0 x1 x2 x3, leB 4 (d % 4294967296).toNat = [x0, x1, x2, x3] := ⟨_, _, _, _, rfl⟩
  have hat : ∀ i, i < 4 → D[a.length + i]? = (leB 4 (d % 4294967296).toNat)[i]? := fun i hi => by
    rw [h, List.getElem?_append_right (by omega), show a.length + i - a.length = i by omega, List.getElem?_append_left (by rw [leB_length]; exact hi)]
  have hle : le [x0, x1, x2, x3] = (d % 4294967296).toNat := by rw [← hx, le_leB]; omega
  rw [hx] at hat
  refine ⟨by rw [strOf_size]; omega, by rw [strOf_size]; exact hs, h1, h2, x0, x1, x2, x3, ?_, fun w => run_str_at rfl a.length (hat 0 (by omega)) w, fun w => run_str_at rfl (a.length + 1) (hat 1 (by omega)) w, fun w => run_str_at rfl (a.length + 2) (hat 2 (by omega)) w, fun w => run_str_at rfl (a.length + 3) (hat 3 (by omega)) w⟩
  rw [hle, show (((d % 4294967296).toNat : Nat) : Int) = d % 4294967296 by omega]
  have := wrap_emod .i32 d
  rw [show IntKind.i32.wrap (d % 4294967296) = IntKind.i32.wrap d from wrap_congr .i32 (by show d % 4294967296 % 4294967296 = d % 4294967296; omega)]
  exact IntWalk.i32_in _ ⟨by omega, by omega⟩

set_option maxRecDepth 20000 in
set_option maxHeartbeats 2000000 in
theorem twTable_calls (o p N P : Nat) (d : Int) (DB : ByteArray) (w : World) (h : TwAt DB p d) (hN : DB.size = N) (hp : N - o = p) (hon : o ≤ N) (hP : w.cell? ⟨P, 0, none⟩ = some (.string DB)) :
    Calls Tryz.prog 20 #[.int .u32 o, .pointer (some ⟨P, 0, none⟩)] w fun e w' => e = .returned (.int .i64 ((p : Int) - d)) ∧ Fr0 w w' := by
  have h1 := h.lt
  have h2 := h.small
  have h3 := h.d1
  have h4 := h.d2
  rw [hN] at h1 h2
  obtain ⟨x0, x1, x2, x3, hx, i0, i1, i2, i3⟩ := h.x
  obtain ⟨Y, hY⟩ : ∃ Y, Y = le [x0, x1, x2, x3] := ⟨_, rfl⟩
  have hor := u32or4 x0 x1 x2 x3
  rw [← hY] at hx hor
  have b0 : (x0.toNat : Int) ≤ 255 := by have := x0.toNat_lt; omega
  have b1 : (x1.toNat : Int) ≤ 255 := by have := x1.toNat_lt; omega
  have b2 : (x2.toNat : Int) ≤ 255 := by have := x2.toNat_lt; omega
  have b3 : (x3.toNat : Int) ≤ 255 := by have := x3.toNat_lt; omega
  have hNo : (N : Int) - (o : Int) = (p : Int) := by omega
  have hY32 : (Y : Int) < 4294967296 := by
    rw [hY]; have := le_take_lt [x0, x1, x2, x3] 4; simp only [List.take_succ_cons, List.take_zero] at this; omega
  have HOP := Lib.hid (And.intro hon hp)
  have hp9 : (p : Int) + 4 ≤ N := by omega
  clear h hY hon hp
  go_enter Tryz.func20, Tryz.ntmps20
  go_wp2_with fail
  go_quiet (fail)
  go_wp2_with fail
  go_ret
  exact ⟨rfl, (Fr.refl _ w).drewN _⟩
end Go.Proofs.YtfplgggepoaajaaGreat

/- FnBuildTwice: two objects with the same fields of one kind, one behind the other, have one vtable. -/
namespace Go.Proofs.YtfplgggepoaajaaGreat
open Go.RowKit
set_option linter.unusedVariables false
set_option linter.unusedSimpArgs false

theorem infoTwS : (Tryz.prog.info? 28).map (fun i => (i.zero, i.size, i.bytes)) = some (some (.agg #[.int .u8 0, .int .u8 0, .int .i64 0, .int .u64 0, .int .u64 0, .int .u32 0, .int .i64 0, .int .i64 0, .int .i64 0, .int .i64 0, .string ⟨#[]⟩]), 11, 88) := by kernel_rfl
theorem tw_one (l : List BS) : ∀ u ∈ l.flatMap bsC, u.oneCell' = true := by
  intro u hu
  obtain ⟨s, _, hs⟩ := List.mem_flatMap.1 hu
  exact bsC_one s u hs
theorem tw_base0 {w : World} {base : Nat} {e : TypeId} {z n : Nat} {v : Value} {xs : List Value} (h : w.ownsRow base e z v n xs) : w.ownsRow 0 e z v n xs := ⟨h.1, h.2.imp id (fun ⟨g, cap, cur, e1, _, e3⟩ => ⟨g, cap, cur, e1, Nat.zero_le _, e3⟩)⟩
theorem tw_slice {w : World} {base : Nat} {e : TypeId} {z n : Nat} {v : Value} {xs : List Value} (h : w.ownsRow base e z v n xs) (hn : 0 < n) : ∃ g cap, v = .slice (some ⟨g, 0, none⟩) n cap ∧ base ≤ g ∧ g < w.heap.size := by
  rcases h.2 with ⟨_, h0⟩ | ⟨g, cap, cur, rfl, hb, hg, h1, h2, h3, h4⟩
  · omega
  · exact ⟨g, cap, rfl, hb, lt_of_block hg⟩
theorem tw_news {w : World} {base : Nat} {e : TypeId} {z n g cap : Nat} {xs : List Value} (h : w.ownsRow base e z (.slice (some ⟨g, 0, none⟩) n cap) n xs) (j : Nat) (u : Value) (hu : xs[j]? = some u) : w.cell? ⟨g, j, none⟩ = some u := by
  rcases h.2 with ⟨h0, _⟩ | ⟨g', cap', cur, e1, hb, hg, h1, h2, h3, h4⟩
  · cases h0
  · injection e1 with e1 _ _
    injection e1 with e1
    injection e1 with e1
    subst e1
    rw [cell_of hg]
    rw [← h4, List.getElem?_take] at hu
    split at hu
    · simpa using hu
    · cases hu
theorem addr_add (g o j : Nat) : (⟨g, o, none⟩ : Addr).add j = ⟨g, o + j, none⟩ := by unfold Addr.add; split <;> simp_all
/-- The steps so far: a row of one's own, and nothing elder is changed. -/
structure TwR (wB : World) (m : Nat) (steps : List BS) (v : Value) (wr : World) : Prop where
  fr : Fr0 wB wr
  own : wr.ownsRow wB.heap.size 28 11 v m (steps.flatMap bsC)
theorem TwR.next {wB wr w' : World} {m c : Nat} {steps new : List BS} {v v' : Value} {o : Obj} {xs : List Value} (h : TwR wB m steps v wr) (hg : (wr.alloc o).grownBy w' v.ownBlock) (ho : w'.ownsRow wB.heap.size 28 11 v' (m + c) (steps.flatMap bsC ++ xs)) (hx : xs = new.flatMap bsC) : TwR wB (m + c) (steps ++ new) v' w' := by
  have hb := own_block_lt h.own
  refine ⟨(h.fr.alloc o).trans2 (S := fun _ => False) (grown_fr hg) (fun k hk e => by have := (hb k e.symm).1; omega), ?_⟩
  rw [List.flatMap_append, ← hx]; exact ho
/-- The lists, and where they lie. -/
structure TwL (w : World) (k n : Nat) (ao : Option Addr) (l : List Nat) : Prop where
  row : ∃ cap, NumRow w .u64 ao n cap l
  lt : ∀ x ∈ l, x < 2 ^ 64
theorem TwL.at {w : World} {k n : Nat} {ao : Option Addr} {l : List Nat} (h : TwL w k n ao l) (j : Nat) (hj : j < n) : ∃ b o x, ao = some ⟨b, o, none⟩ ∧ b < w.heap.size ∧ l[j]? = some x ∧ x < 2 ^ 64 ∧ w.cell? ⟨b, o + j, none⟩ = some (.int .u64 x) := by
  obtain ⟨cap, hl, h0⟩ := h.row
  rcases h0 with h0 | ⟨b, o, rfl, hb, hc⟩
  · omega
  · have hjl : j < l.length := by omega
    exact ⟨b, o, l[j], rfl, hb, List.getElem?_eq_getElem hjl, h.lt _ (List.getElem_mem hjl), hc j _ (List.getElem?_eq_getElem hjl)⟩
theorem tw_lit0 {w : World} {t : TypeId} {base : Nat} (hb : base ≤ w.heap.size) : (w.alloc (.cells #[] t)).ownsRow base t 11 (.slice (some ⟨w.heap.size, 0, none⟩) 0 0) 0 [] := by
  refine ⟨by simp, .inr ⟨w.heap.size, 0, #[], rfl, hb, heap_alloc_new w _, Nat.le_refl _, by unfold maxLen; omega, by simp, by simp⟩⟩
theorem tw_len (l : List BS) : (l.flatMap bsC).length = l.length * 11 := by
  induction l with
  | nil => rfl
  | cons s r ih => rw [List.flatMap_cons, List.length_append, ih, List.length_cons, show (bsC s).length = 11 from rfl]; omega
theorem lit_keep {w w' : World} {S : Nat → Prop} {B : Nat} {o : Obj} (h : w.heap[B]? = some o) (hf : Fr S w w') (hn : ¬ S B) : w'.heap[B]? = some o := (hf.block B (lt_of_block h) hn).trans h
theorem lit_news {w : World} {B : Nat} {xs : List Value} {t : TypeId} (h : w.heap[B]? = some (.cells xs.toArray t)) (j : Nat) (u : Value) (hu : xs[j]? = some u) : w.cell? ((⟨B, 0, none⟩ : Addr).add j) = some u := by
  rw [addr_add, Nat.zero_add, cell_of h]; simpa using hu
/-- What buildRun gives of the two objects. -/
def TwRun (n : Nat) (D : ByteArray) (p1 p2 o1 o2 : Nat) (w : World) (e : Ending) (w' : World) : Prop := ∃ g cap, e = .returned (.tuple #[.slice (some ⟨g, 0, none⟩) n cap, .string D, .bool true]) ∧ Fr0 w w' ∧ g < w'.heap.size ∧
  w'.cell? ⟨g, p1 * 4, none⟩ = some (.int .u32 (o1 : Nat)) ∧ w'.cell? ⟨g, p2 * 4, none⟩ = some (.int .u32 (o2 : Nat)) ∧ w'.cell? ⟨g, p2 * 4 + 1, none⟩ = some (.int .u32 (o2 : Nat))
theorem tw_sok (k : Nat) : ∀ (l : List Nat) (i : Nat), i + l.length ≤ 60 → (∀ x ∈ l, x < 2 ^ 64 ∧ rightB k x = true) → ∀ s ∈ twF k i l, SOK s
  | [], i, _, _, s, hs => by cases hs
  | x :: r, i, hl, hx, s, hs => by
    rw [List.length_cons] at hl
    have hr := (rightB_iff k x).1 (hx x (by simp)).2
    have hx64 := (hx x (by simp)).1
    simp only [twF, List.mem_cons] at hs
    rcases hs with rfl | rfl | hs
    · constructor <;> simp [twA, hr] <;> omega
    · constructor <;> simp [twB]
    · exact tw_sok k r (i + 1) (by omega) (fun y hy => hx y (by simp [hy])) s hs
theorem tw_sokO (k : Nat) (l : List Nat) (hl : l.length ≤ 40) (hx : ∀ x ∈ l, x < 2 ^ 64 ∧ rightB k x = true) : ∀ s ∈ twO k l, SOK s := by
  intro s hs
  unfold twO at hs
  rcases List.mem_cons.1 hs with rfl | hs
  · constructor <;> simp [twStart] <;> omega
  · rcases List.mem_append.1 hs with hs | hs
    · exact tw_sok k l 0 (by omega) hx s hs
    · rw [List.mem_singleton.1 hs]; constructor <;> simp [twEnd]
theorem twRun_calls (k n : Nat) (l1 l2 : List Nat) (hk : k ≤ 10) (e1 : l1.length = n) (e2 : l2.length = n) (hn1 : 1 ≤ n) (hn : n ≤ 40) (hr1 : ∀ x ∈ l1, x < 2 ^ 64 ∧ rightB k x = true) (hr2 : ∀ x ∈ l2, x < 2 ^ 64 ∧ rightB k x = true) :
    ∃ (DB : ByteArray) (o1 o2 : Nat) (d1 d2 X : Int), DB.size = o2 ∧ o1 < o2 ∧ o2 < 100000 ∧ TwAt DB (o2 - o1) d1 ∧ TwAt DB 0 d2 ∧ ((o2 - o1 : Nat) : Int) - d1 = X ∧ ((0 : Nat) : Int) - d2 = X ∧
      ∀ (m base : Nat) (v : Value) (w : World), m = 4 * n + 5 → w.ownsRow base 28 11 v m ((twO k l1).flatMap bsC ++ bsC twPrep ++ (twO k l2).flatMap bsC) → Calls Tryz.prog 14 #[v] w (TwRun (4 * n + 5) DB (2 * n + 1) (4 * n + 4) o1 o2 w) := by
  obtain ⟨an, st', o1, o2, vv, hrun, hres⟩ := tw_run k hk l1 l2 n e1 e2 hn1 hn
  obtain ⟨b, hb⟩ := hres.front
  obtain ⟨a', b', hb', ha'⟩ := hres.first
  have hlt := hres.lt
  have hsm := hres.small
  have hsz := hres.size
  have hv0 := hres.v0
  have hv1 := hres.v1
  refine ⟨strOf st'.m.bytes, o1, o2, (vv : Int) - o1, (vv : Int) - o2, (o2 : Int) - vv, by rw [strOf_size, hsz], hlt, hsm, ?_, ?_, by omega, by omega, ?_⟩
  · rw [← ha']; exact twAt_of hb' (by omega) (by omega) (by omega)
  · exact twAt_of (a := []) hb (by omega) (by omega) (by omega)
  · intro m base v w hm hown
    have hst : (twO k l1 ++ twPrep :: twO k l2).length = m := by rw [List.length_append, List.length_cons, twO_length, twO_length, e1, e2]; omega
    have hrow : (twO k l1).flatMap bsC ++ bsC twPrep ++ (twO k l2).flatMap bsC = (twO k l1 ++ twPrep :: twO k l2).flatMap bsC := by
      rw [List.flatMap_append, List.flatMap_cons, List.append_assoc]
    have hown2 := tw_base0 hown
    rw [hrow] at hown2
    have hsok : ∀ s ∈ twO k l1 ++ twPrep :: twO k l2, SOK s := by
      intro s hs
      rcases List.mem_append.1 hs with hs | hs
      · exact tw_sokO k l1 (by omega) hr1 s hs
      · rcases List.mem_cons.1 hs with rfl | hs
        · constructor <;> simp [twPrep, algn]
        · exact tw_sokO k l2 (by omega) hr2 s hs
    subst hst
    refine (buildRun_calls v _ w hown2 (by omega) (safe_all _ _ _ hsok)).mono ?_
    rintro e w' ⟨r, rfl, hown', hf⟩
    rw [hrun] at hown' ⊢
    rw [show (an, some st').1 = an from rfl] at hown'
    have hlen := hres.len
    have h3 := hown'
    rw [hlen, show 4 * n + 5 = 4 * n + 5 from rfl] at h3
    obtain ⟨g, cap, rfl, _, hgl⟩ := tw_slice h3 (by omega)
    have hc : ∀ i (hi : i < an.length) j, j < 4 → w'.cell? ⟨g, i * 4 + j, none⟩ = (bansC an[i])[j]? := by
      intro i hi j hj
      obtain ⟨g', cap', hv, _, hcs⟩ := own_cellsZ (f := bansC) (z := 4) (fun _ => rfl) hown' hi
      injection hv with e1 _ _
      injection e1 with e1
      injection e1 with e1
      subst e1
      exact hcs j hj
    obtain ⟨x1, hx1, hx1r⟩ := hres.a1
    obtain ⟨x2, hx2, hx2r, hx2o⟩ := hres.a2
    obtain ⟨hi1, hy1⟩ := List.getElem?_eq_some_iff.1 hx1
    obtain ⟨hi2, hy2⟩ := List.getElem?_eq_some_iff.1 hx2
    refine ⟨g, cap, rfl, hf, hgl, ?_, ?_, ?_⟩
    · have := hc _ hi1 0 (by omega)
      rw [hy1] at this
      rw [← hx1r]; exact this
    · have := hc _ hi2 0 (by omega)
      rw [hy2] at this
      rw [← hx2r]; exact this
    · have := hc _ hi2 1 (by omega)
      rw [hy2] at this
      rw [← hx2o]; exact this
def twI (k : Nat) (l1 l2 : List Nat) (i : Nat) : List BS := ([l1, l2].take i).flatMap (twO k)
def TwRight (k : Nat) (l1 l2 : List Nat) (i : Nat) : Prop := ∀ l ∈ [l1, l2].take i, ∀ x ∈ l, rightB k x = true

set_option maxRecDepth 100000 in
set_option maxHeartbeats 8000000 in
theorem Twice_loop (k n c1 c2 : Nat) (a1 a2 : Option Addr) (l1 l2 : List Nat) (hk : k ≤ 10) (hn1 : 1 ≤ n) (hn : n ≤ 40) (w : World) (h1 : TwL w k n a1 l1) (h2 : TwL w k n a2 l2) (e1 : l1.length = n) (e2 : l2.length = n) :
    Calls Tryz.prog 10 #[.int .u8 k, .slice a1 n c1, .slice a2 n c2] w fun e w' => e = .returned (.bool true) ∧ Below w.heap.size w w' := by
  obtain ⟨i0, hi, hz0, hz1, hz2⟩ := info_parts infoTwS
  have HSR := Lib.hid (fun x (hx : x < 2 ^ 64) w => ScalarRight_calls k x (by omega) hx w)
  have H1 := Lib.hid h1
  have H2 := Lib.hid h2
  have HE := Lib.hid (And.intro e1 e2)
  have q1 : decide ((2147483647 : Int) < (n : Int)) = false := by rw [decide_eq_false_iff_not]; omega
  have q2 : decide ((10 : Int) < (k : Int)) = false := by rw [decide_eq_false_iff_not]; omega
  have q3 : ((n : Int) == 0) = false := by rw [beq_eq_false_iff_ne]; omega
  have q4 : decide ((40 : Int) < (n : Int)) = false := by rw [decide_eq_false_iff_not]; omega
  clear h1 h2 e1 e2
  go_enter Tryz.func10, Tryz.ntmps10
  go_wp2_with fail
  generalize hwB : w.alloc _ = wB
  have hB : wB.heap[w.heap.size]? = some (.cells #[.slice a1 n c1, .slice a2 n c2] 51) := by rw [← hwB]; exact heap_alloc_new w _
  have hsB : wB.heap.size = w.heap.size + 1 := by rw [← hwB, size_alloc]
  have hfB : Fr0 w wB := by rw [← hwB]; exact (Fr.refl _ w).alloc _
  have HB := Lib.hid hB
  have HSB := Lib.hid hsB
  have HFB := Lib.hid hfB
  clear hB hsB hfB hwB
  go_loopw [7, 50] (fun s7 s50 wr => ∃ i : Nat, i ≤ 2 ∧ s50 = .int .i64 i ∧ TwR wB (i * (2 * n + 2)) (twI k l1 l2 i) s7 wr ∧ TwRight k l1 l2 i) (fun _ s50 _ => 2 - (intOf s50).toNat)
  case atStart => exact ⟨0, by omega, rfl, ⟨Fr.refl _ _, ⟨by simp [twI], .inl ⟨rfl, by omega⟩⟩⟩, by intro l hl; cases hl⟩
  case round =>
    obtain ⟨i, hi2, rfl, hR, hRt⟩ := hrel
    by_cases hlt : i < 2
    · obtain ⟨ai, ci, li, hcell, hLi, hll, hli⟩ : ∃ ai ci li, wr.cell? ⟨w.heap.size, i, none⟩ = some (.slice ai n ci) ∧ TwL w k n ai li ∧ [l1, l2][i]? = some li ∧ li.length = n := by
        have hb := (hR.fr.block w.heap.size (by have := HSB.out; omega) (fun x => x)).trans HB.out
        obtain rfl | rfl : i = 0 ∨ i = 1 := by omega
        · exact ⟨a1, c1, l1, by rw [cell_of hb]; rfl, H1.out, rfl, HE.out.1⟩
        · exact ⟨a2, c2, l2, by rw [cell_of hb]; rfl, H2.out, rfl, HE.out.2⟩
      obtain ⟨mi, hmi⟩ : ∃ mi, mi = i * (2 * n + 2) := ⟨_, rfl⟩
      rw [← hmi] at hR
      have hmi82 : mi ≤ 82 := by
        rw [hmi]
        obtain rfl | rfl : i = 0 ∨ i = 1 := by omega
        · omega
        · omega
      have HMI := Lib.hid hmi
      have hsz := hR.fr.size
      have HSZ := Lib.hid hsz
      have HR := Lib.hid hR
      have HRT := Lib.hid hRt
      have HLI := Lib.hid hLi
      have HLL := Lib.hid (And.intro hll hli)
      have hown := hR.own
      have HO := Lib.hid hown
      clear hR hRt hLi hll hli hown hmi hsz
      go_wp2_with ((at_builtin; refine wpList_append_own _ rfl (.tmp 54) (.tmp 58) 25 rfl wB.heap.size 28 i0 (.agg #[.int .u8 0, .int .u8 0, .int .i64 0, .int .u64 0, .int .u64 0, .int .u32 0, .int .i64 0, .int .i64 0, .int .i64 0, .int .i64 0, .string ⟨#[]⟩]) 11 88 Tryz.underlying25 hi hz0 hz1 hz2 rfl (by decide) _ _ _ rfl (HO.out.alloc _) ⟨wr.heap.size, 0, none⟩ 1 1 (bsC (twStart n)) rfl rfl (newCellsL _ _ _ _ rfl) (bsC_one _) (by unfold maxLen; omega) (by omega) (by have := HSZ.out; simp; omega) ?_; intro v1 w1 hown hgrow hnil))
      have hR1 : TwR wB (mi + 1) (twI k l1 l2 i ++ [twStart n]) v1 w1 := HR.out.next hgrow hown (by rfl)
      have HR1 := Lib.hid hR1
      clear hgrow hown hnil hR1
      go_wp2_with fail
      go_loopw [7, 62] (fun s7 s62 wr => ∃ j : Nat, j ≤ n ∧ s62 = .int .i64 j ∧ TwR wB (mi + 1 + 2 * j) (twI k l1 l2 i ++ [twStart n] ++ twF k 0 (li.take j)) s7 wr ∧ (∀ x ∈ li.take j, rightB k x = true)) (fun _ s62 _ => n - (intOf s62).toNat)
      case atStart => exact ⟨0, by omega, rfl, by simpa [twF] using HR1.out, by intro x hx; cases hx⟩
      case round =>
        obtain ⟨j, hj, rfl, hR2, hRt2⟩ := hrel
        have hsz := hR2.fr.size
        have HSZ := Lib.hid hsz
        have HR2 := Lib.hid hR2
        have HRT2 := Lib.hid hRt2
        have hown := hR2.own
        have HO := Lib.hid hown
        have HF2 := Lib.hid hR2.fr
        clear hR2 hRt2 hown hsz
        by_cases hlj : j < n
        · obtain ⟨b, o, x, rfl, hb, hxj, hx64, hc⟩ := HLI.out.at j hlj
          have hcx : wr.cell? ⟨b, o + j, none⟩ = some (.int .u64 x) := by
            have h := Fr.cell (HFB.out.trans HF2.out) (p := ⟨b, o + j, none⟩) hb (fun x => x)
            rw [h]; exact hc
          have HXJ := Lib.hid hxj
          cases hrx : rightB k x with
          | false =>
            go_wp2_with fail
            refine (HSR.out x hx64 _).mono ?_
            rintro e w' ⟨rfl, rfl⟩
            rw [hrx]
            go_wp2_with fail
            refine (buildAwake_calls _).mono ?_
            rintro e w' ⟨rfl, hf⟩
            go_wp2_with fail
            go_ret
            exact ⟨rfl, Fr0.below ((HFB.out.trans HF2.out).trans hf)⟩
          | true =>
            go_wp2_with fail
            refine (HSR.out x hx64 _).mono ?_
            rintro e w' ⟨rfl, rfl⟩
            rw [hrx]
            go_wp2_with (go_loud ((at_builtin; refine wpList_append_own _ rfl (.tmp 72) (.tmp 78) 25 rfl wB.heap.size 28 i0 (.agg #[.int .u8 0, .int .u8 0, .int .i64 0, .int .u64 0, .int .u64 0, .int .u32 0, .int .i64 0, .int .i64 0, .int .i64 0, .int .i64 0, .string ⟨#[]⟩]) 11 88 Tryz.underlying25 hi hz0 hz1 hz2 rfl (by decide) _ _ _ rfl (HO.out.alloc _) ⟨w'.heap.size, 0, none⟩ 2 2 (bsC (twA k x) ++ bsC (twB j)) rfl rfl (newCellsL _ _ _ _ rfl) (tw_one [twA k x, twB j]) (by unfold maxLen; omega) (by omega) (by have := HSZ.out; simp; omega) ?_; intro v2 w2 hown hgrow hnil)))
            have hR3 : TwR wB (mi + 1 + 2 * j + 2) (twI k l1 l2 i ++ [twStart n] ++ twF k 0 (li.take j) ++ [twA k x, twB j]) v2 w2 := HR2.out.next hgrow hown (by rfl)
            have hR4 : TwR wB (mi + 1 + 2 * (j + 1)) (twI k l1 l2 i ++ [twStart n] ++ twF k 0 (li.take (j + 1))) v2 w2 := by
              obtain ⟨hjl, hje⟩ := List.getElem?_eq_some_iff.1 HXJ.out
              have e : twF k 0 (li.take (j + 1)) = twF k 0 (li.take j) ++ [twA k x, twB j] := by
                rw [List.take_succ_eq_append_getElem hjl, hje, twF_snoc, List.length_take, Nat.min_eq_left (by omega), Nat.zero_add]
              rw [e, ← List.append_assoc, show mi + 1 + 2 * (j + 1) = mi + 1 + 2 * j + 2 by omega]
              exact hR3
            have hrt4 : ∀ y ∈ li.take (j + 1), rightB k y = true := by
              obtain ⟨hjl, hje⟩ := List.getElem?_eq_some_iff.1 HXJ.out
              intro y hy
              rw [List.take_succ_eq_append_getElem hjl, hje] at hy
              rcases List.mem_append.1 hy with hy | hy
              · exact HRT2.out y hy
              · rw [List.mem_singleton.1 hy]; exact hrx
            have HR4 := Lib.hid hR4
            have HRT4 := Lib.hid hrt4
            clear hgrow hown hnil hR3 hR4 hrt4 hrx
            go_wp2_with fail
            go_roundw
            case rel => exact ⟨j + 1, by omega, by go_num, HR4.out, HRT4.out⟩
            case measure => simp [intOf]; omega
        · have hje : j = n := by omega
          subst hje
          go_wp2_with ((at_builtin; refine wpList_append_own _ rfl (.tmp 81) (.tmp 83) 25 rfl wB.heap.size 28 i0 (.agg #[.int .u8 0, .int .u8 0, .int .i64 0, .int .u64 0, .int .u64 0, .int .u32 0, .int .i64 0, .int .i64 0, .int .i64 0, .int .i64 0, .string ⟨#[]⟩]) 11 88 Tryz.underlying25 hi hz0 hz1 hz2 rfl (by decide) _ _ _ rfl (HO.out.alloc _) ⟨wr.heap.size, 0, none⟩ 1 1 (bsC twEnd) rfl rfl (newCellsL _ _ _ _ rfl) (bsC_one _) (by unfold maxLen; omega) (by omega) (by have := HSZ.out; simp; omega) ?_; intro v3 w3 hown hgrow hnil))
          have hR3 : TwR wB ((i + 1) * (2 * j + 2)) (twI k l1 l2 (i + 1)) v3 w3 := by
            have h3 : TwR wB (mi + 1 + 2 * j + 1) (twI k l1 l2 i ++ [twStart j] ++ twF k 0 (li.take j) ++ [twEnd]) v3 w3 := HR2.out.next hgrow hown (by rfl)
            obtain ⟨hll, hli⟩ := HLL.out
            have e : twI k l1 l2 (i + 1) = twI k l1 l2 i ++ [twStart j] ++ twF k 0 (li.take j) ++ [twEnd] := by
              obtain ⟨hil, hie⟩ := List.getElem?_eq_some_iff.1 hll
              unfold twI
              rw [List.take_succ_eq_append_getElem hil, hie, List.flatMap_append, List.flatMap_cons, List.flatMap_nil, List.append_nil]
              rw [show twO k li = twStart li.length :: (twF k 0 li ++ [twEnd]) from rfl, hli, List.take_of_length_le (l := li) (by omega)]
              simp only [List.append_assoc, List.cons_append, List.nil_append]
            rw [e, show (i + 1) * (2 * j + 2) = mi + 1 + 2 * j + 1 by rw [HMI.out, Nat.add_mul]; omega]
            exact h3
          have hrt3 : TwRight k l1 l2 (i + 1) := by
            obtain ⟨hll, hli⟩ := HLL.out
            obtain ⟨hil, hie⟩ := List.getElem?_eq_some_iff.1 hll
            intro l hl
            rw [List.take_succ_eq_append_getElem hil, hie] at hl
            rcases List.mem_append.1 hl with hl | hl
            · exact HRT.out l hl
            · rw [List.mem_singleton.1 hl]
              have := HRT2.out
              rwa [List.take_of_length_le (by omega)] at this
          have HR3 := Lib.hid hR3
          have HRT3 := Lib.hid hrt3
          clear hgrow hown hnil hR3 hrt3
          go_wp2_with fail
          go_roundw
          case rel => exact ⟨i + 1, by omega, by go_num, HR3.out, HRT3.out⟩
          case measure => simp [intOf]; omega
    · have hie : i = 2 := by omega
      subst hie
      obtain ⟨H, hH⟩ : ∃ H, H = 2 * n + 2 := ⟨_, rfl⟩
      obtain ⟨M, hM⟩ : ∃ M, M = 2 * (2 * n + 2) := ⟨_, rfl⟩
      rw [← hM] at hR
      obtain ⟨g, cap, rfl, hg0, hg1⟩ := tw_slice hR.own (by omega)
      have hcap : M ≤ cap := by
        rcases hR.own.2 with ⟨h0, _⟩ | ⟨g', cap', cur, e1, hb, hg, h1, h2, h3, h4⟩
        · cases h0
        · injection e1 with e1 _ e3; subst e3; exact h1
      have hMH : M = H + H := by omega
      have hH4 : 4 ≤ H ∧ H ≤ 82 := by omega
      have hq : Int.tdiv (M : Int) 2 = (H : Int) := by rw [Int.tdiv_eq_ediv_of_nonneg (by omega)]; omega
      have hHM : (M : Int) - (H : Int) = (H : Int) := by omega
      have hHM2 : M - H = H := by omega
      have hqw : IntKind.i64.wrap (H : Int) = (H : Int) := by exact IntWalk.i64_in _ ⟨by omega, by omega⟩
      have hle : (H : Int) ≤ (M : Int) := by omega
      have hle2 : (H : Int) ≤ (cap : Int) := by omega
      have hle3 : (M : Int) ≤ (cap : Int) := by omega
      have hne : ¬ (cap = H) := by omega
      have HMH := Lib.hid hMH
      obtain ⟨XS1, hX1⟩ : ∃ XS1, XS1 = (twO k l1).flatMap bsC := ⟨_, rfl⟩
      obtain ⟨XS2, hX2⟩ : ∃ XS2, XS2 = (twO k l2).flatMap bsC := ⟨_, rfl⟩
      have hXX : (twI k l1 l2 2).flatMap bsC = XS1 ++ XS2 := by
        rw [hX1, hX2, ← List.flatMap_append]
        show List.flatMap bsC (List.flatMap (twO k) [l1, l2]) = _
        rw [List.flatMap_cons, List.flatMap_cons, List.flatMap_nil, List.append_nil]
      have hl1 : XS1.length = H * 11 := by rw [hX1, tw_len, twO_length, HE.out.1, hH]
      have hl2 : XS2.length = H * 11 := by rw [hX2, tw_len, twO_length, HE.out.2, hH]
      have hown := hR.own
      rw [hXX] at hown
      have HXL := Lib.hid (And.intro hl1 hl2)
      have hnw1 : ∀ wc, Fr0 wr wc → ∀ j u, XS1[j]? = some u → wc.cell? ((⟨g, 0, none⟩ : Addr).add j) = some u := by
        intro wc hf j u hu
        obtain ⟨hj, _⟩ := List.getElem?_eq_some_iff.1 hu
        rw [addr_add, Nat.zero_add, Fr.cell hf (p := ⟨g, j, none⟩) hg1 (fun x => x)]
        exact tw_news hown j u (by rw [List.getElem?_append_left hj]; exact hu)
      have hnw2 : ∀ wc, Fr0 wr wc → ∀ j u, XS2[j]? = some u → wc.cell? ((⟨g, H * 11, none⟩ : Addr).add j) = some u := by
        intro wc hf j u hu
        rw [addr_add, Fr.cell hf (p := ⟨g, H * 11 + j, none⟩) hg1 (fun x => x)]
        exact tw_news hown _ u (by rw [List.getElem?_append_right (by omega), show H * 11 + j - XS1.length = j by omega]; exact hu)
      have hone : (∀ u ∈ XS1, u.oneCell' = true) ∧ (∀ u ∈ XS2, u.oneCell' = true) := by rw [hX1, hX2]; exact ⟨tw_one _, tw_one _⟩
      have NW1 := Lib.hid hnw1
      have NW2 := Lib.hid hnw2
      have HONE := Lib.hid hone
      have HX12 := Lib.hid (And.intro hX1 hX2)
      clear hown hnw1 hnw2 hone hl1 hl2 hXX hX1 hX2
      have HR := Lib.hid hR
      have HRT := Lib.hid hRt
      obtain ⟨DB, o1, o2, d1, d2, X, hDs, ho12, ho2, hA1, hA2, hE1, hE2, hrun⟩ := twRun_calls k n l1 l2 hk HE.out.1 HE.out.2 hn1 hn (fun x hx => ⟨H1.out.lt x hx, hRt l1 (by simp) x hx⟩) (fun x hx => ⟨H2.out.lt x hx, hRt l2 (by simp) x hx⟩)
      obtain ⟨p1, hp1⟩ : ∃ p1, p1 = 2 * n + 1 := ⟨_, rfl⟩
      obtain ⟨p2, hp2⟩ : ∃ p2, p2 = 4 * n + 4 := ⟨_, rfl⟩
      obtain ⟨M1, hM1⟩ : ∃ M1, M1 = 4 * n + 5 := ⟨_, rfl⟩
      rw [← hp1, ← hp2, ← hM1] at hrun
      have HP := Lib.hid (show H + 1 + H = M1 ∧ (H : Int) - 1 = (p1 : Int) ∧ (M1 : Int) - 1 = (p2 : Int) ∧ Int.tdiv (M1 : Int) 2 = (H : Int) ∧ p1 < M1 ∧ p2 < M1 ∧ p1 < 1000 ∧ M1 < 1000 ∧ p2 < 1000 from ⟨by omega, by omega, by omega, by rw [Int.tdiv_eq_ediv_of_nonneg (by omega)]; omega, by omega, by omega, by omega, by omega, by omega⟩)
      have HRUN := Lib.hid hrun
      have HEE := Lib.hid (And.intro hE1 hE2)
      have HDS := Lib.hid (And.intro hDs (And.intro ho12 ho2))
      have HAA := Lib.hid (And.intro hA1 hA2)
      clear hrun hE1 hE2 hDs ho12 ho2 hA1 hA2 hp1 hp2 hM1
      have HHM := Lib.hid (And.intro hH hM)
      clear hR hRt hH hM hMH
      go_wp2_with fail
      refine wp_region_tail_held 16 (S := (fun w' => Fr0 wr w')) _ (by kernel_rfl) (by kernel_rfl) (by kernel_rfl) ((Fr.refl _ wr).drew) (fun hHeld => ?_)
      simp only [List.take_succ_cons, List.take_zero, List.drop_succ_cons, List.drop_zero, List.length_cons, List.length_nil, Nat.zero_add, Nat.reduceAdd]
      refine wpAnyH_take (i := 1) (v := .slice (some ⟨g, 0, none⟩) M cap) rfl (by kernel_rfl) (by kernel_rfl) (by kernel_rfl) (fun _ _ _ h => h) (Or.inl ⟨by rfl, ?_⟩) (by assumption) ?_
      · intro w' hc
        clear hc
        go_simp
      simp only [Act.put, List.setIfInBounds_toArray, List.set_cons_zero, List.set_cons_succ]
      refine wpAnyH_take (i := 2) (v := .slice (some ⟨g, 0, none⟩) M cap) rfl (by kernel_rfl) (by kernel_rfl) (by kernel_rfl) (fun _ _ _ h => h) (Or.inl ⟨by rfl, ?_⟩) (by assumption) ?_
      · intro w' hc
        clear hc
        go_simp
      simp only [Act.put, List.setIfInBounds_toArray, List.set_cons_zero, List.set_cons_succ]
      refine wpAnyH_take (i := 3) (v := .int .i64 M) rfl (by kernel_rfl) (by kernel_rfl) (by kernel_rfl) (fun _ _ _ h => h) (Or.inl ⟨by rfl, ?_⟩) (by assumption) ?_
      · intro w' hc
        clear hc
        go_simp
      simp only [Act.put, List.setIfInBounds_toArray, List.set_cons_zero, List.set_cons_succ]
      refine wpAnyH_take (i := 4) (v := .int .i64 H) rfl (by kernel_rfl) (by kernel_rfl) (by kernel_rfl) (fun _ _ _ h => h) (Or.inl ⟨by rfl, ?_⟩) (by assumption) ?_
      · intro w' hc
        clear hc
        go_simp
      simp only [Act.put, List.setIfInBounds_toArray, List.set_cons_zero, List.set_cons_succ]
      refine wpAnyH_take (i := 5) (v := .slice (some ⟨g, 0, none⟩) H cap) rfl (by kernel_rfl) (by kernel_rfl) (by kernel_rfl) (fun _ _ _ h => h) (Or.inl ⟨by rfl, ?_⟩) (by assumption) ?_
      · intro w' hc
        clear hc
        go_simp
        try (intro h; omega)
      simp only [Act.put, List.setIfInBounds_toArray, List.set_cons_zero, List.set_cons_succ]
      refine wpAnyH_take (i := 7) (v := (.agg #[.int .u8 16, .int .u8 0, .int .i64 0, .int .u64 0, .int .u64 0, .int .u32 0, .int .i64 0, .int .i64 8, .int .i64 0, .int .i64 0, .string ⟨#[]⟩])) rfl (by kernel_rfl) (by kernel_rfl) (by kernel_rfl) (fun _ _ _ h => h) (Or.inl ⟨by rfl, ?_⟩) (by assumption) ?_
      · intro w' hc
        clear hc
        go_simp
      simp only [Act.put, List.setIfInBounds_toArray, List.set_cons_zero, List.set_cons_succ]
      refine wpAnyH_take (i := 10) (v := .slice (some ⟨g, 0, none⟩) M cap) rfl (by kernel_rfl) (by kernel_rfl) (by kernel_rfl) (fun _ _ _ h => h) (Or.inl ⟨by rfl, ?_⟩) (by assumption) ?_
      · intro w' hc
        clear hc
        go_simp
      simp only [Act.put, List.setIfInBounds_toArray, List.set_cons_zero, List.set_cons_succ]
      refine wpAnyH_take (i := 11) (v := .slice (some ⟨g, 0, none⟩) M cap) rfl (by kernel_rfl) (by kernel_rfl) (by kernel_rfl) (fun _ _ _ h => h) (Or.inl ⟨by rfl, ?_⟩) (by assumption) ?_
      · intro w' hc
        clear hc
        go_simp
      simp only [Act.put, List.setIfInBounds_toArray, List.set_cons_zero, List.set_cons_succ]
      refine wpAnyH_take (i := 12) (v := .int .i64 M) rfl (by kernel_rfl) (by kernel_rfl) (by kernel_rfl) (fun _ _ _ h => h) (Or.inl ⟨by rfl, ?_⟩) (by assumption) ?_
      · intro w' hc
        clear hc
        go_simp
      simp only [Act.put, List.setIfInBounds_toArray, List.set_cons_zero, List.set_cons_succ]
      refine wpAnyH_take (i := 13) (v := .int .i64 H) rfl (by kernel_rfl) (by kernel_rfl) (by kernel_rfl) (fun _ _ _ h => h) (Or.inl ⟨by rfl, ?_⟩) (by assumption) ?_
      · intro w' hc
        clear hc
        go_simp
      simp only [Act.put, List.setIfInBounds_toArray, List.set_cons_zero, List.set_cons_succ]
      refine wpAnyH_take (i := 14) (v := (.slice (some ⟨g, H * 11, none⟩) H (cap - H))) rfl (by kernel_rfl) (by kernel_rfl) (by kernel_rfl) (fun _ _ _ h => h) (Or.inl ⟨by rfl, ?_⟩) (by assumption) ?_
      · intro w' hc
        clear hc
        go_simp
      simp only [Act.put, List.setIfInBounds_toArray, List.set_cons_zero, List.set_cons_succ]
      generalize hwd : wr.drew = wd at hHeld ⊢
      clear hwd
      refine wpAnyH_ready (rs := [0, 8]) (by kernel_rfl) (by simp) ?_
      refine AllReadyH.cons rfl (fun K hK => ?_) (AllReadyH.cons rfl (fun K hK => ?_) AllReadyH.nil)
      · go_simp
        have hS1 := hHeld.alloc (.cells #[] 28)
        have HO0 := Lib.hid (tw_lit0 (w := wd) (t := 28) (base := wr.heap.size) hHeld.size)
        have hzz1 : wd.heap.size + 1 = (wd.alloc (.cells #[] 28)).heap.size := (size_alloc _ _).symm
        refine hK.out _ _ hS1 (fun _ => ?_)
        try simp only [Act.put, List.setIfInBounds_toArray, List.set_cons_zero, List.set_cons_succ]
        generalize hgw1 : wd.alloc (.cells #[] 28) = wd1 at *
        clear hgw1
        refine wpAnyH_ready (rs := [6, 8]) (by kernel_rfl) (by simp) ?_
        refine AllReadyH.cons rfl (fun K hK => ?_) (AllReadyH.cons rfl (fun K hK => ?_) AllReadyH.nil)
        · refine step_append_lies _ (by rfl) _ _ _ (by rfl) wr.heap.size 28 i0 _ 11 88 Tryz.underlying25 hi hz0 hz1 hz2 rfl (by decide) _ 0 ([]) (by rfl) HO0.out ⟨g, 0, none⟩ H cap (XS1) (by rfl) HXL.out.1 (NW1.out _ hS1) (HONE.out.1) (by omega) (by unfold maxLen; omega) (by omega) (hS1.size) _ (by rfl) ?_
          intro g6 c6 wd2 hown hgrow hat hlt
          simp only [Nat.zero_add, List.nil_append] at hown ⊢
          have HO6 := Lib.hid hown
          have hb := own_block_lt HO0.out
          have hS2 : Fr0 wr wd2 := hS1.trans2 (S := fun _ => False) (grown_fr hgrow) (fun k hk e => by have := (hb k e.symm).1; omega)
          clear hown hgrow hat hb
          refine hK.out _ _ hS2 (fun _ => ?_)
          try simp only [Act.put, List.setIfInBounds_toArray, List.set_cons_zero, List.set_cons_succ]
          refine wpAnyH_ready (rs := [8]) (by kernel_rfl) (by simp) ?_
          refine AllReadyH.cons rfl (fun K hK => ?_) AllReadyH.nil
          go_simp
          have hS3 := hS2.alloc (.cells #[.int .u8 16, .int .u8 0, .int .i64 0, .int .u64 0, .int .u64 0, .int .u32 0, .int .i64 0, .int .i64 8, .int .i64 0, .int .i64 0, .string ⟨#[]⟩] 28)
          have HL3 := Lib.hid (heap_alloc_new wd2 (.cells #[.int .u8 16, .int .u8 0, .int .i64 0, .int .u64 0, .int .u64 0, .int .u32 0, .int .i64 0, .int .i64 8, .int .i64 0, .int .i64 0, .string ⟨#[]⟩] 28))
          have HOA3 := Lib.hid (HO6.out.alloc (.cells #[.int .u8 16, .int .u8 0, .int .i64 0, .int .u64 0, .int .u64 0, .int .u32 0, .int .i64 0, .int .i64 8, .int .i64 0, .int .i64 0, .string ⟨#[]⟩] 28))
          have hzz3 : wd2.heap.size + 1 = (wd2.alloc (.cells #[.int .u8 16, .int .u8 0, .int .i64 0, .int .u64 0, .int .u64 0, .int .u32 0, .int .i64 0, .int .i64 8, .int .i64 0, .int .i64 0, .string ⟨#[]⟩] 28)).heap.size := (size_alloc _ _).symm
          refine hK.out _ _ hS3 (fun _ => ?_)
          try simp only [Act.put, List.setIfInBounds_toArray, List.set_cons_zero, List.set_cons_succ]
          generalize hgw3 : wd2.alloc (.cells #[.int .u8 16, .int .u8 0, .int .i64 0, .int .u64 0, .int .u64 0, .int .u32 0, .int .i64 0, .int .i64 8, .int .i64 0, .int .i64 0, .string ⟨#[]⟩] 28) = wd3 at *
          clear hgw3
          refine wpAnyH_ready (rs := [9]) (by kernel_rfl) (by simp) ?_
          refine AllReadyH.cons rfl (fun K hK => ?_) AllReadyH.nil
          refine step_append_lies _ (by rfl) _ _ _ (by rfl) wr.heap.size 28 i0 _ 11 88 Tryz.underlying25 hi hz0 hz1 hz2 rfl (by decide) _ H (XS1) (by rfl) HOA3.out ⟨wd2.heap.size, 0, none⟩ 1 1 (bsC twPrep) (by rfl) rfl (lit_news (xs := bsC twPrep) HL3.out) (bsC_one _) (by omega) (by unfold maxLen; omega) (by omega) (hS3.size) _ (by rfl) ?_
          intro g9 c9 wd4 hown hgrow hat hlt
          have HO9 := Lib.hid hown
          have hb := own_block_lt HOA3.out
          have hS4 : Fr0 wr wd4 := hS3.trans2 (S := fun _ => False) (grown_fr hgrow) (fun k hk e => by have := (hb k e.symm).1; omega)
          clear hown hgrow hat hb
          refine hK.out _ _ hS4 (fun _ => ?_)
          try simp only [Act.put, List.setIfInBounds_toArray, List.set_cons_zero, List.set_cons_succ]
          refine wpAnyH_ready (rs := [15]) (by kernel_rfl) (by simp) ?_
          refine AllReadyH.cons rfl (fun K hK => ?_) AllReadyH.nil
          refine step_append_lies _ (by rfl) _ _ _ (by rfl) wr.heap.size 28 i0 _ 11 88 Tryz.underlying25 hi hz0 hz1 hz2 rfl (by decide) _ (H + 1) (XS1 ++ bsC twPrep) (by rfl) HO9.out ⟨g, H * 11, none⟩ H (cap - H) (XS2) (by rfl) HXL.out.2 (NW2.out _ hS4) (HONE.out.2) (by omega) (by unfold maxLen; omega) (by omega) (hS4.size) _ (by rfl) ?_
          intro g15 c15 wd5 hown hgrow hat hlt
          have HO15 := Lib.hid hown
          have hb := own_block_lt HO9.out
          have hS5 : Fr0 wr wd5 := hS4.trans2 (S := fun _ => False) (grown_fr hgrow) (fun k hk e => by have := (hb k e.symm).1; omega)
          clear hown hgrow hat hb
          refine hK.out _ _ hS5 (fun _ => ?_)
          try simp only [Act.put, List.setIfInBounds_toArray, List.set_cons_zero, List.set_cons_succ]
          refine wpAnyH_done (by kernel_rfl) ?_ _
          show wpTail _ _ _ _ _ _ _
          refine wpTail_step (by rfl) (fun K hK => ?_)
          go_simp
          refine hK _ _ ?_
          refine wpTail_nil ?_
          clear hK K
          have hown := HO15.out
          obtain ⟨hm1, hm2, hm3, hm4, hm5, hm6, hm7, hm8, hm9⟩ := HP.out
          obtain ⟨hDs, ho12, ho2⟩ := HDS.out
          simp only [hm1] at hown ⊢
          rw [HX12.out.1, HX12.out.2] at hown
          have hf19 : Fr0 w wd5 := (HFB.out.trans HR.out.fr).trans hS5
          have HF19 := Lib.hid hf19
          have HOWN := Lib.hid hown
          clear hf19 hown hHeld hS1 hS2 hS3 hS4 hS5
          generalize wd5 = wz at *
          go_wp2_with fail
          refine (HRUN.out M1 _ _ _ (by have := HHM.out; omega) HOWN.out).mono ?_
          rintro e w2 ⟨g2, cap2, rfl, hf2, hgl2, x1, x2, x3⟩
          go_wp2_with fail
          refine (buildAwake_calls _).mono ?_
          rintro e w7 ⟨rfl, hf7⟩
          have hfP : Fr0 w2 w7 := ((Fr.refl _ w2).alloc (.cells #[.string DB] 9)).trans hf7
          have cP : w7.cell? ⟨w2.heap.size, 0, none⟩ = some (.string DB) := by
            have hb := (hf7.block w2.heap.size (by rw [size_alloc]; omega) (fun x => x)).trans (heap_alloc_new w2 (.cells #[.string DB] 9))
            rw [cell_of hb]; rfl
          have y1 : w7.cell? ⟨g2, p1 * 4, none⟩ = some (.int .u32 (o1 : Nat)) := (Fr.cell hfP (p := ⟨g2, p1 * 4, none⟩) hgl2 (fun x => x)).trans x1
          have y2 : w7.cell? ⟨g2, p2 * 4, none⟩ = some (.int .u32 (o2 : Nat)) := (Fr.cell hfP (p := ⟨g2, p2 * 4, none⟩) hgl2 (fun x => x)).trans x2
          have y3 : w7.cell? ⟨g2, p2 * 4 + 1, none⟩ = some (.int .u32 (o2 : Nat)) := (Fr.cell hfP (p := ⟨g2, p2 * 4 + 1, none⟩) hgl2 (fun x => x)).trans x3
          have HF7 := Lib.hid ((HF19.out.trans hf2).trans hfP)
          have HCP := Lib.hid cP
          have HY3 := Lib.hid y3
          have hs27 : w2.heap.size < w7.heap.size := by have := hf7.size; rw [size_alloc] at this; omega
          have hg27 : g2 < w7.heap.size := by omega
          have HGL := Lib.hid (And.intro hg27 hs27)
          clear hs27 hg27 hfP cP x1 x2 x3 hf7 hf2 HF19 hgl2
          go_wp2_with fail
          go_quiet (fail)
          go_wp2_with fail
          refine (twTable_calls o1 (o2 - o1) o2 w2.heap.size d1 DB (w7.drewN nq) HAA.out.1 hDs rfl (by omega) (show (w7.drewN nq).cell? ⟨w2.heap.size, 0, none⟩ = some (.string DB) from HCP.out)).mono ?_
          rintro e w8 ⟨rfl, hf8⟩
          have cP8 : w8.cell? ⟨w2.heap.size, 0, none⟩ = some (.string DB) := (Fr.cell hf8 (p := ⟨w2.heap.size, 0, none⟩) HGL.out.2 (fun x => x)).trans HCP.out
          have y38 : w8.cell? ⟨g2, p2 * 4 + 1, none⟩ = some (.int .u32 (o2 : Nat)) := (Fr.cell hf8 (p := ⟨g2, p2 * 4 + 1, none⟩) HGL.out.1 (fun x => x)).trans HY3.out
          rw [HEE.out.1]
          have hs8 := hf8.size
          have HF8 := Lib.hid ((HF7.out.drewN _).trans hf8)
          have HCP8 := Lib.hid cP8
          have HY8 := Lib.hid (And.intro y38 hs8)
          clear hf8 cP8 y38 y1 y2 y3 hs8
          go_wp2_with fail
          refine (twTable_calls o2 0 o2 w2.heap.size d2 DB _ HAA.out.2 hDs (by omega) (by omega) HCP8.out).mono ?_
          rintro e w9 ⟨rfl, hf9⟩
          have y39 : w9.cell? ⟨g2, p2 * 4 + 1, none⟩ = some (.int .u32 (o2 : Nat)) := (Fr.cell hf9 (p := ⟨g2, p2 * 4 + 1, none⟩) (by have := HGL.out.1; have : w7.heap.size ≤ w8.heap.size := HY8.out.2; show g2 < w8.heap.size; omega) (fun x => x)).trans HY8.out.1
          rw [HEE.out.2]
          have HF9 := Lib.hid (HF8.out.trans hf9)
          clear hf9
          go_wp2_with fail
          go_ret
          exact ⟨rfl, Fr0.below HF9.out⟩
        · go_simp
          have hS2 := hS1.alloc (.cells #[.int .u8 16, .int .u8 0, .int .i64 0, .int .u64 0, .int .u64 0, .int .u32 0, .int .i64 0, .int .i64 8, .int .i64 0, .int .i64 0, .string ⟨#[]⟩] 28)
          have HL2 := Lib.hid (heap_alloc_new wd1 (.cells #[.int .u8 16, .int .u8 0, .int .i64 0, .int .u64 0, .int .u64 0, .int .u32 0, .int .i64 0, .int .i64 8, .int .i64 0, .int .i64 0, .string ⟨#[]⟩] 28))
          have HOA2 := Lib.hid (HO0.out.alloc (.cells #[.int .u8 16, .int .u8 0, .int .i64 0, .int .u64 0, .int .u64 0, .int .u32 0, .int .i64 0, .int .i64 8, .int .i64 0, .int .i64 0, .string ⟨#[]⟩] 28))
          have hzz2 : wd1.heap.size + 1 = (wd1.alloc (.cells #[.int .u8 16, .int .u8 0, .int .i64 0, .int .u64 0, .int .u64 0, .int .u32 0, .int .i64 0, .int .i64 8, .int .i64 0, .int .i64 0, .string ⟨#[]⟩] 28)).heap.size := (size_alloc _ _).symm
          refine hK.out _ _ hS2 (fun _ => ?_)
          try simp only [Act.put, List.setIfInBounds_toArray, List.set_cons_zero, List.set_cons_succ]
          generalize hgw2 : wd1.alloc (.cells #[.int .u8 16, .int .u8 0, .int .i64 0, .int .u64 0, .int .u64 0, .int .u32 0, .int .i64 0, .int .i64 8, .int .i64 0, .int .i64 0, .string ⟨#[]⟩] 28) = wd2 at *
          clear hgw2
          refine wpAnyH_ready (rs := [6]) (by kernel_rfl) (by simp) ?_
          refine AllReadyH.cons rfl (fun K hK => ?_) AllReadyH.nil
          refine step_append_lies _ (by rfl) _ _ _ (by rfl) wr.heap.size 28 i0 _ 11 88 Tryz.underlying25 hi hz0 hz1 hz2 rfl (by decide) _ 0 ([]) (by rfl) HOA2.out ⟨g, 0, none⟩ H cap (XS1) (by rfl) HXL.out.1 (NW1.out _ hS2) (HONE.out.1) (by omega) (by unfold maxLen; omega) (by omega) (hS2.size) _ (by rfl) ?_
          intro g6 c6 wd3 hown hgrow hat hlt
          simp only [Nat.zero_add, List.nil_append] at hown ⊢
          have HO6 := Lib.hid hown
          have hb := own_block_lt HOA2.out
          have hS3 : Fr0 wr wd3 := hS2.trans2 (S := fun _ => False) (grown_fr hgrow) (fun k hk e => by have := (hb k e.symm).1; omega)
          have HL3 := Lib.hid (lit_keep HL2.out (grown_fr hgrow) (fun e => by injection e with e; have e3 : wd1.heap.size = wd.heap.size := e; omega))
          clear hown hgrow hat hb
          refine hK.out _ _ hS3 (fun _ => ?_)
          try simp only [Act.put, List.setIfInBounds_toArray, List.set_cons_zero, List.set_cons_succ]
          refine wpAnyH_ready (rs := [9]) (by kernel_rfl) (by simp) ?_
          refine AllReadyH.cons rfl (fun K hK => ?_) AllReadyH.nil
          refine step_append_lies _ (by rfl) _ _ _ (by rfl) wr.heap.size 28 i0 _ 11 88 Tryz.underlying25 hi hz0 hz1 hz2 rfl (by decide) _ H (XS1) (by rfl) HO6.out ⟨wd1.heap.size, 0, none⟩ 1 1 (bsC twPrep) (by rfl) rfl (lit_news (xs := bsC twPrep) HL3.out) (bsC_one _) (by omega) (by unfold maxLen; omega) (by omega) (hS3.size) _ (by rfl) ?_
          intro g9 c9 wd4 hown hgrow hat hlt
          have HO9 := Lib.hid hown
          have hb := own_block_lt HO6.out
          have hS4 : Fr0 wr wd4 := hS3.trans2 (S := fun _ => False) (grown_fr hgrow) (fun k hk e => by have := (hb k e.symm).1; omega)
          clear hown hgrow hat hb
          refine hK.out _ _ hS4 (fun _ => ?_)
          try simp only [Act.put, List.setIfInBounds_toArray, List.set_cons_zero, List.set_cons_succ]
          refine wpAnyH_ready (rs := [15]) (by kernel_rfl) (by simp) ?_
          refine AllReadyH.cons rfl (fun K hK => ?_) AllReadyH.nil
          refine step_append_lies _ (by rfl) _ _ _ (by rfl) wr.heap.size 28 i0 _ 11 88 Tryz.underlying25 hi hz0 hz1 hz2 rfl (by decide) _ (H + 1) (XS1 ++ bsC twPrep) (by rfl) HO9.out ⟨g, H * 11, none⟩ H (cap - H) (XS2) (by rfl) HXL.out.2 (NW2.out _ hS4) (HONE.out.2) (by omega) (by unfold maxLen; omega) (by omega) (hS4.size) _ (by rfl) ?_
          intro g15 c15 wd5 hown hgrow hat hlt
          have HO15 := Lib.hid hown
          have hb := own_block_lt HO9.out
          have hS5 : Fr0 wr wd5 := hS4.trans2 (S := fun _ => False) (grown_fr hgrow) (fun k hk e => by have := (hb k e.symm).1; omega)
          clear hown hgrow hat hb
          refine hK.out _ _ hS5 (fun _ => ?_)
          try simp only [Act.put, List.setIfInBounds_toArray, List.set_cons_zero, List.set_cons_succ]
          refine wpAnyH_done (by kernel_rfl) ?_ _
          show wpTail _ _ _ _ _ _ _
          refine wpTail_step (by rfl) (fun K hK => ?_)
          go_simp
          refine hK _ _ ?_
          refine wpTail_nil ?_
          clear hK K
          have hown := HO15.out
          obtain ⟨hm1, hm2, hm3, hm4, hm5, hm6, hm7, hm8, hm9⟩ := HP.out
          obtain ⟨hDs, ho12, ho2⟩ := HDS.out
          simp only [hm1] at hown ⊢
          rw [HX12.out.1, HX12.out.2] at hown
          have hf19 : Fr0 w wd5 := (HFB.out.trans HR.out.fr).trans hS5
          have HF19 := Lib.hid hf19
          have HOWN := Lib.hid hown
          clear hf19 hown hHeld hS1 hS2 hS3 hS4 hS5
          generalize wd5 = wz at *
          go_wp2_with fail
          refine (HRUN.out M1 _ _ _ (by have := HHM.out; omega) HOWN.out).mono ?_
          rintro e w2 ⟨g2, cap2, rfl, hf2, hgl2, x1, x2, x3⟩
          go_wp2_with fail
          refine (buildAwake_calls _).mono ?_
          rintro e w7 ⟨rfl, hf7⟩
          have hfP : Fr0 w2 w7 := ((Fr.refl _ w2).alloc (.cells #[.string DB] 9)).trans hf7
          have cP : w7.cell? ⟨w2.heap.size, 0, none⟩ = some (.string DB) := by
            have hb := (hf7.block w2.heap.size (by rw [size_alloc]; omega) (fun x => x)).trans (heap_alloc_new w2 (.cells #[.string DB] 9))
            rw [cell_of hb]; rfl
          have y1 : w7.cell? ⟨g2, p1 * 4, none⟩ = some (.int .u32 (o1 : Nat)) := (Fr.cell hfP (p := ⟨g2, p1 * 4, none⟩) hgl2 (fun x => x)).trans x1
          have y2 : w7.cell? ⟨g2, p2 * 4, none⟩ = some (.int .u32 (o2 : Nat)) := (Fr.cell hfP (p := ⟨g2, p2 * 4, none⟩) hgl2 (fun x => x)).trans x2
          have y3 : w7.cell? ⟨g2, p2 * 4 + 1, none⟩ = some (.int .u32 (o2 : Nat)) := (Fr.cell hfP (p := ⟨g2, p2 * 4 + 1, none⟩) hgl2 (fun x => x)).trans x3
          have HF7 := Lib.hid ((HF19.out.trans hf2).trans hfP)
          have HCP := Lib.hid cP
          have HY3 := Lib.hid y3
          have hs27 : w2.heap.size < w7.heap.size := by have := hf7.size; rw [size_alloc] at this; omega
          have hg27 : g2 < w7.heap.size := by omega
          have HGL := Lib.hid (And.intro hg27 hs27)
          clear hs27 hg27 hfP cP x1 x2 x3 hf7 hf2 HF19 hgl2
          go_wp2_with fail
          go_quiet (fail)
          go_wp2_with fail
          refine (twTable_calls o1 (o2 - o1) o2 w2.heap.size d1 DB (w7.drewN nq) HAA.out.1 hDs rfl (by omega) (show (w7.drewN nq).cell? ⟨w2.heap.size, 0, none⟩ = some (.string DB) from HCP.out)).mono ?_
          rintro e w8 ⟨rfl, hf8⟩
          have cP8 : w8.cell? ⟨w2.heap.size, 0, none⟩ = some (.string DB) := (Fr.cell hf8 (p := ⟨w2.heap.size, 0, none⟩) HGL.out.2 (fun x => x)).trans HCP.out
          have y38 : w8.cell? ⟨g2, p2 * 4 + 1, none⟩ = some (.int .u32 (o2 : Nat)) := (Fr.cell hf8 (p := ⟨g2, p2 * 4 + 1, none⟩) HGL.out.1 (fun x => x)).trans HY3.out
          rw [HEE.out.1]
          have hs8 := hf8.size
          have HF8 := Lib.hid ((HF7.out.drewN _).trans hf8)
          have HCP8 := Lib.hid cP8
          have HY8 := Lib.hid (And.intro y38 hs8)
          clear hf8 cP8 y38 y1 y2 y3 hs8
          go_wp2_with fail
          refine (twTable_calls o2 0 o2 w2.heap.size d2 DB _ HAA.out.2 hDs (by omega) (by omega) HCP8.out).mono ?_
          rintro e w9 ⟨rfl, hf9⟩
          have y39 : w9.cell? ⟨g2, p2 * 4 + 1, none⟩ = some (.int .u32 (o2 : Nat)) := (Fr.cell hf9 (p := ⟨g2, p2 * 4 + 1, none⟩) (by have := HGL.out.1; have : w7.heap.size ≤ w8.heap.size := HY8.out.2; show g2 < w8.heap.size; omega) (fun x => x)).trans HY8.out.1
          rw [HEE.out.2]
          have HF9 := Lib.hid (HF8.out.trans hf9)
          clear hf9
          go_wp2_with fail
          go_ret
          exact ⟨rfl, Fr0.below HF9.out⟩
      · go_simp
        have hS1 := hHeld.alloc (.cells #[.int .u8 16, .int .u8 0, .int .i64 0, .int .u64 0, .int .u64 0, .int .u32 0, .int .i64 0, .int .i64 8, .int .i64 0, .int .i64 0, .string ⟨#[]⟩] 28)
        have HL1 := Lib.hid (heap_alloc_new wd (.cells #[.int .u8 16, .int .u8 0, .int .i64 0, .int .u64 0, .int .u64 0, .int .u32 0, .int .i64 0, .int .i64 8, .int .i64 0, .int .i64 0, .string ⟨#[]⟩] 28))
        have hzz1 : wd.heap.size + 1 = (wd.alloc (.cells #[.int .u8 16, .int .u8 0, .int .i64 0, .int .u64 0, .int .u64 0, .int .u32 0, .int .i64 0, .int .i64 8, .int .i64 0, .int .i64 0, .string ⟨#[]⟩] 28)).heap.size := (size_alloc _ _).symm
        refine hK.out _ _ hS1 (fun _ => ?_)
        try simp only [Act.put, List.setIfInBounds_toArray, List.set_cons_zero, List.set_cons_succ]
        generalize hgw1 : wd.alloc (.cells #[.int .u8 16, .int .u8 0, .int .i64 0, .int .u64 0, .int .u64 0, .int .u32 0, .int .i64 0, .int .i64 8, .int .i64 0, .int .i64 0, .string ⟨#[]⟩] 28) = wd1 at *
        clear hgw1
        refine wpAnyH_ready (rs := [0]) (by kernel_rfl) (by simp) ?_
        refine AllReadyH.cons rfl (fun K hK => ?_) AllReadyH.nil
        go_simp
        have hS2 := hS1.alloc (.cells #[] 28)
        have HO0 := Lib.hid (tw_lit0 (w := wd1) (t := 28) (base := wr.heap.size) hS1.size)
        have HL2 := Lib.hid (lit_keep HL1.out ((Fr.refl (fun _ => False) wd1).alloc (.cells #[] 28)) (fun x => x))
        have hzz2 : wd1.heap.size + 1 = (wd1.alloc (.cells #[] 28)).heap.size := (size_alloc _ _).symm
        refine hK.out _ _ hS2 (fun _ => ?_)
        try simp only [Act.put, List.setIfInBounds_toArray, List.set_cons_zero, List.set_cons_succ]
        generalize hgw2 : wd1.alloc (.cells #[] 28) = wd2 at *
        clear hgw2
        refine wpAnyH_ready (rs := [6]) (by kernel_rfl) (by simp) ?_
        refine AllReadyH.cons rfl (fun K hK => ?_) AllReadyH.nil
        refine step_append_lies _ (by rfl) _ _ _ (by rfl) wr.heap.size 28 i0 _ 11 88 Tryz.underlying25 hi hz0 hz1 hz2 rfl (by decide) _ 0 ([]) (by rfl) HO0.out ⟨g, 0, none⟩ H cap (XS1) (by rfl) HXL.out.1 (NW1.out _ hS2) (HONE.out.1) (by omega) (by unfold maxLen; omega) (by omega) (hS2.size) _ (by rfl) ?_
        intro g6 c6 wd3 hown hgrow hat hlt
        simp only [Nat.zero_add, List.nil_append] at hown ⊢
        have HO6 := Lib.hid hown
        have hb := own_block_lt HO0.out
        have hS3 : Fr0 wr wd3 := hS2.trans2 (S := fun _ => False) (grown_fr hgrow) (fun k hk e => by have := (hb k e.symm).1; omega)
        have HL3 := Lib.hid (lit_keep HL2.out (grown_fr hgrow) (fun e => by injection e with e; have e3 : wd.heap.size = wd1.heap.size := e; omega))
        clear hown hgrow hat hb
        refine hK.out _ _ hS3 (fun _ => ?_)
        try simp only [Act.put, List.setIfInBounds_toArray, List.set_cons_zero, List.set_cons_succ]
        refine wpAnyH_ready (rs := [9]) (by kernel_rfl) (by simp) ?_
        refine AllReadyH.cons rfl (fun K hK => ?_) AllReadyH.nil
        refine step_append_lies _ (by rfl) _ _ _ (by rfl) wr.heap.size 28 i0 _ 11 88 Tryz.underlying25 hi hz0 hz1 hz2 rfl (by decide) _ H (XS1) (by rfl) HO6.out ⟨wd.heap.size, 0, none⟩ 1 1 (bsC twPrep) (by rfl) rfl (lit_news (xs := bsC twPrep) HL3.out) (bsC_one _) (by omega) (by unfold maxLen; omega) (by omega) (hS3.size) _ (by rfl) ?_
        intro g9 c9 wd4 hown hgrow hat hlt
        have HO9 := Lib.hid hown
        have hb := own_block_lt HO6.out
        have hS4 : Fr0 wr wd4 := hS3.trans2 (S := fun _ => False) (grown_fr hgrow) (fun k hk e => by have := (hb k e.symm).1; omega)
        clear hown hgrow hat hb
        refine hK.out _ _ hS4 (fun _ => ?_)
        try simp only [Act.put, List.setIfInBounds_toArray, List.set_cons_zero, List.set_cons_succ]
        refine wpAnyH_ready (rs := [15]) (by kernel_rfl) (by simp) ?_
        refine AllReadyH.cons rfl (fun K hK => ?_) AllReadyH.nil
        refine step_append_lies _ (by rfl) _ _ _ (by rfl) wr.heap.size 28 i0 _ 11 88 Tryz.underlying25 hi hz0 hz1 hz2 rfl (by decide) _ (H + 1) (XS1 ++ bsC twPrep) (by rfl) HO9.out ⟨g, H * 11, none⟩ H (cap - H) (XS2) (by rfl) HXL.out.2 (NW2.out _ hS4) (HONE.out.2) (by omega) (by unfold maxLen; omega) (by omega) (hS4.size) _ (by rfl) ?_
        intro g15 c15 wd5 hown hgrow hat hlt
        have HO15 := Lib.hid hown
        have hb := own_block_lt HO9.out
        have hS5 : Fr0 wr wd5 := hS4.trans2 (S := fun _ => False) (grown_fr hgrow) (fun k hk e => by have := (hb k e.symm).1; omega)
        clear hown hgrow hat hb
        refine hK.out _ _ hS5 (fun _ => ?_)
        try simp only [Act.put, List.setIfInBounds_toArray, List.set_cons_zero, List.set_cons_succ]
        refine wpAnyH_done (by kernel_rfl) ?_ _
        show wpTail _ _ _ _ _ _ _
        refine wpTail_step (by rfl) (fun K hK => ?_)
        go_simp
        refine hK _ _ ?_
        refine wpTail_nil ?_
        clear hK K
        have hown := HO15.out
        obtain ⟨hm1, hm2, hm3, hm4, hm5, hm6, hm7, hm8, hm9⟩ := HP.out
        obtain ⟨hDs, ho12, ho2⟩ := HDS.out
        simp only [hm1] at hown ⊢
        rw [HX12.out.1, HX12.out.2] at hown
        have hf19 : Fr0 w wd5 := (HFB.out.trans HR.out.fr).trans hS5
        have HF19 := Lib.hid hf19
        have HOWN := Lib.hid hown
        clear hf19 hown hHeld hS1 hS2 hS3 hS4 hS5
        generalize wd5 = wz at *
        go_wp2_with fail
        refine (HRUN.out M1 _ _ _ (by have := HHM.out; omega) HOWN.out).mono ?_
        rintro e w2 ⟨g2, cap2, rfl, hf2, hgl2, x1, x2, x3⟩
        go_wp2_with fail
        refine (buildAwake_calls _).mono ?_
        rintro e w7 ⟨rfl, hf7⟩
        have hfP : Fr0 w2 w7 := ((Fr.refl _ w2).alloc (.cells #[.string DB] 9)).trans hf7
        have cP : w7.cell? ⟨w2.heap.size, 0, none⟩ = some (.string DB) := by
          have hb := (hf7.block w2.heap.size (by rw [size_alloc]; omega) (fun x => x)).trans (heap_alloc_new w2 (.cells #[.string DB] 9))
          rw [cell_of hb]; rfl
        have y1 : w7.cell? ⟨g2, p1 * 4, none⟩ = some (.int .u32 (o1 : Nat)) := (Fr.cell hfP (p := ⟨g2, p1 * 4, none⟩) hgl2 (fun x => x)).trans x1
        have y2 : w7.cell? ⟨g2, p2 * 4, none⟩ = some (.int .u32 (o2 : Nat)) := (Fr.cell hfP (p := ⟨g2, p2 * 4, none⟩) hgl2 (fun x => x)).trans x2
        have y3 : w7.cell? ⟨g2, p2 * 4 + 1, none⟩ = some (.int .u32 (o2 : Nat)) := (Fr.cell hfP (p := ⟨g2, p2 * 4 + 1, none⟩) hgl2 (fun x => x)).trans x3
        have HF7 := Lib.hid ((HF19.out.trans hf2).trans hfP)
        have HCP := Lib.hid cP
        have HY3 := Lib.hid y3
        have hs27 : w2.heap.size < w7.heap.size := by have := hf7.size; rw [size_alloc] at this; omega
        have hg27 : g2 < w7.heap.size := by omega
        have HGL := Lib.hid (And.intro hg27 hs27)
        clear hs27 hg27 hfP cP x1 x2 x3 hf7 hf2 HF19 hgl2
        go_wp2_with fail
        go_quiet (fail)
        go_wp2_with fail
        refine (twTable_calls o1 (o2 - o1) o2 w2.heap.size d1 DB (w7.drewN nq) HAA.out.1 hDs rfl (by omega) (show (w7.drewN nq).cell? ⟨w2.heap.size, 0, none⟩ = some (.string DB) from HCP.out)).mono ?_
        rintro e w8 ⟨rfl, hf8⟩
        have cP8 : w8.cell? ⟨w2.heap.size, 0, none⟩ = some (.string DB) := (Fr.cell hf8 (p := ⟨w2.heap.size, 0, none⟩) HGL.out.2 (fun x => x)).trans HCP.out
        have y38 : w8.cell? ⟨g2, p2 * 4 + 1, none⟩ = some (.int .u32 (o2 : Nat)) := (Fr.cell hf8 (p := ⟨g2, p2 * 4 + 1, none⟩) HGL.out.1 (fun x => x)).trans HY3.out
        rw [HEE.out.1]
        have hs8 := hf8.size
        have HF8 := Lib.hid ((HF7.out.drewN _).trans hf8)
        have HCP8 := Lib.hid cP8
        have HY8 := Lib.hid (And.intro y38 hs8)
        clear hf8 cP8 y38 y1 y2 y3 hs8
        go_wp2_with fail
        refine (twTable_calls o2 0 o2 w2.heap.size d2 DB _ HAA.out.2 hDs (by omega) (by omega) HCP8.out).mono ?_
        rintro e w9 ⟨rfl, hf9⟩
        have y39 : w9.cell? ⟨g2, p2 * 4 + 1, none⟩ = some (.int .u32 (o2 : Nat)) := (Fr.cell hf9 (p := ⟨g2, p2 * 4 + 1, none⟩) (by have := HGL.out.1; have : w7.heap.size ≤ w8.heap.size := HY8.out.2; show g2 < w8.heap.size; omega) (fun x => x)).trans HY8.out.1
        rw [HEE.out.2]
        have HF9 := Lib.hid (HF8.out.trans hf9)
        clear hf9
        go_wp2_with fail
        go_ret
        exact ⟨rfl, Fr0.below HF9.out⟩

set_option maxRecDepth 20000 in
set_option maxHeartbeats 2000000 in
theorem FnBuildTwice_walk (kind : Int) (a1 : Option Addr) (n1 c1 : Nat) (l1 : List Nat) (a2 : Option Addr) (n2 c2 : Nat) (l2 : List Nat) (w0 : (Lit.int .u8 kind).wf = true) (w : World)
    (h1 : NumRow w .u64 a1 n1 c1 l1) (x1 : ∀ x ∈ l1, x < 2 ^ 64) (h2 : NumRow w .u64 a2 n2 c2 l2) (x2 : ∀ x ∈ l2, x < 2 ^ 64) :
    Calls Tryz.prog 10 #[.int .u8 kind, .slice a1 n1 c1, .slice a2 n2 c2] w fun e w' => e = .returned (.bool true) ∧ Below w.heap.size w w' := by
  obtain ⟨k, rfl, hk⟩ : ∃ k : Nat, kind = k ∧ k < 256 := by
    have := bounds_u8 w0
    exact ⟨kind.toNat, by omega, by omega⟩
  by_cases hgood : k ≤ 10 ∧ 1 ≤ n1 ∧ n1 ≤ 40 ∧ n1 = n2
  · obtain ⟨g1, g2, g3, rfl⟩ := hgood
    exact Twice_loop k n1 c1 c2 a1 a2 l1 l2 g1 g2 g3 w ⟨⟨c1, h1⟩, x1⟩ ⟨⟨c2, h2⟩, x2⟩ h1.1 h2.1
  · clear w0 h1 x1 h2 x2
    go_enter Tryz.func10, Tryz.ntmps10
    go_wp2_with fail
    all_goals first
      | (go_ret; exact ⟨rfl, Fr0.below (Fr.refl _ _)⟩)
      | (exfalso; simp at *; omega)
      | (refine (buildAwake_calls _).mono ?_
         rintro e w' ⟨rfl, hf⟩
         go_wp2_with fail
         go_ret
         exact ⟨rfl, Fr0.below hf⟩)
end Go.Proofs.YtfplgggepoaajaaGreat
