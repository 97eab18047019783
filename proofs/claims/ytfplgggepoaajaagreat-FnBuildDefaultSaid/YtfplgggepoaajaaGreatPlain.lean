/- Plain facts about a Builder's bytes, for the statements. -/
import Derived.Test.YtfplgggepoaajaaGreatBRun
import Derived.OpenShut
namespace Go.Proofs.YtfplgggepoaajaaGreat
open Go.RowKit
set_option linter.unusedVariables false
set_option linter.unusedSimpArgs false

theorem padB_mod (u s : Nat) (hs : algn s) : (padB u s + u) % s = 0 := by
  unfold padB; unfold algn at hs
  rcases hs with rfl | rfl | rfl | rfl | rfl <;> omega
theorem prep_mod (m : BM) (size add : Nat) (hs : algn size) : ((m.prep size add).bytes.length + add) % size = 0 := by
  rw [m.prep_len size add hs]
  have := padB_mod (m.bytes.length + add) size hs
  unfold BM.pad
  rw [Nat.add_assoc]; exact this
theorem prep_bytes (m : BM) (size add : Nat) : (m.prep size add).bytes = List.replicate (m.pad size add) 0 ++ m.bytes := rfl
theorem prep_id (m : BM) (size add : Nat) (hs : algn size) (h : (m.bytes.length + add) % size = 0) : (m.prep size add).bytes = m.bytes := by
  have e : m.pad size add = 0 := by
    unfold BM.pad padB
    rw [h]
    unfold algn at hs
    rw [Nat.sub_zero, Nat.mod_self]
  rw [prep_bytes, e]; rfl
/-- The bytes of a string. -/
theorem text_true (m : BM) (xs : List UInt8) : ∃ k, k < 4 ∧ (m.text xs true).bytes = leB 4 xs.length ++ (xs ++ (0 :: (List.replicate k 0 ++ m.bytes))) ∧ (m.text xs true).bytes.length % 4 = 0 := by
  have ha : algn 4 := by unfold algn; omega
  refine ⟨m.pad 4 (xs.length + 1), m.pad_lt 4 _ ha, rfl, ?_⟩
  have h := prep_mod m 4 (xs.length + 1) ha
  have e : (m.text xs true).bytes = leB 4 xs.length ++ (xs ++ ([0] ++ (m.prep 4 (xs.length + 1)).bytes)) := rfl
  rw [e]
  simp only [List.length_append, leB_length, List.length_singleton]
  omega
theorem text_false (m : BM) (xs : List UInt8) : ∃ k, k < 4 ∧ (m.text xs false).bytes = leB 4 xs.length ++ (xs ++ (List.replicate k 0 ++ m.bytes)) ∧ (m.text xs false).bytes.length % 4 = 0 := by
  have ha : algn 4 := by unfold algn; omega
  refine ⟨m.pad 4 xs.length, m.pad_lt 4 _ ha, rfl, ?_⟩
  have h := prep_mod m 4 xs.length ha
  have e : (m.text xs false).bytes = leB 4 xs.length ++ (xs ++ (m.prep 4 xs.length).bytes) := rfl
  rw [e]
  simp only [List.length_append, leB_length]
  omega
/-- A script whose steps can be asked. -/
theorem safe_all : ∀ (steps : List BS) (an : List BAns) (st : BSt), (∀ s ∈ steps, SOK s) → SafeRun steps an st
  | [], _, _, _ => trivial
  | s :: rest, an, st, h => by
    refine ⟨h s (by simp), trivial, ?_⟩
    cases e : mStep st s (offOf s an) with
    | none => trivial
    | some x =>
      obtain ⟨r, t, st'⟩ := x
      exact safe_all rest _ st' (fun s hs => h s (by simp [hs]))
def HasVt (st : BSt) : Prop := True
theorem HasVt.start (n : Nat) : HasVt (st0 n) := trivial
theorem safe_plain (steps : List BS) (an : List BAns) (st : BSt) (h : ∀ s ∈ steps, SOK s ∧ s.op ≠ 17 ∧ s.op ≠ 18 ∧ s.op ≠ 10) (hv : HasVt st) : SafeRun steps an st := safe_all steps an st fun s hs => (h s hs).1
/-- One step more. -/
theorem mRunB_cons {s : BS} {rest : List BS} {an : List BAns} {st st' : BSt} {r : Nat} {t : List UInt8} (h : mStep st s (offOf s an) = some (r, t, st')) : mRunB (s :: rest) an st = mRunB rest (an ++ [⟨r, st'.m.bytes.length, t, false⟩]) st' := by
  conv => lhs; unfold mRunB
  rw [h]
theorem mRunB_stop {s : BS} {rest : List BS} {an : List BAns} {st : BSt} (h : mStep st s (offOf s an) = none) : mRunB (s :: rest) an st = (an ++ [BAns.dead], none) := by
  conv => lhs; unfold mRunB
  rw [h]
theorem refer_pos {st : BSt} {off : Nat} (h4 : st.m.bytes.length % 4 = 0) (ho : off ≤ st.m.bytes.length) : ∃ m, st.refer off = some { st with m := m } ∧ m.bytes = leB 4 (st.m.bytes.length - off + 4) ++ st.m.bytes := by
  have e := prep_id st.m 4 0 (by unfold algn; omega) h4
  refine ⟨(st.m.prep 4 0).put (leB 4 ((st.m.prep 4 0).bytes.length - off + 4)), ?_, ?_⟩
  · unfold BSt.refer BM.refer
    rw [e, if_pos ho]; rfl
  · show leB 4 _ ++ (st.m.prep 4 0).bytes = _
    rw [e]
theorem refer_neg {st : BSt} {off : Nat} (h4 : st.m.bytes.length % 4 = 0) (ho : st.m.bytes.length < off) : st.refer off = none := by
  have e := prep_id st.m 4 0 (by unfold algn; omega) h4
  unfold BSt.refer BM.refer
  rw [e, if_neg (by omega)]; rfl
theorem run_str_at {D : ByteArray} {l : List UInt8} (hD : D = strOf l) (i : Nat) {x : UInt8} (h : l[i]? = some x) (w : World) : (Instr.index 9 (.string D) (.int .i64 i)).run Tryz.prog w = .ok (.int .u8 (x.toNat : Int)) w := by
  subst hD
  obtain ⟨hlt, hx⟩ := List.getElem?_eq_some_iff.1 h
  rw [run_index_string w 9 _ .i64 i Tryz.underlying9, dif_pos ⟨by omega, by rw [strOf_size]; omega⟩, ← hx]
  rfl
theorem u32or4 (x0 x1 x2 x3 : UInt8) : bits .or .u32 (bits .or .u32 (bits .or .u32 (x0.toNat : Int) ((x1.toNat : Int) * 256)) ((x2.toNat : Int) * 65536)) ((x3.toNat : Int) * 16777216) = ((le [x0, x1, x2, x3] : Nat) : Int) := by
  have h := or4 .u32 x0 x1 x2 x3
  rw [bits_wrap_or] at h
  rw [h]
  have hb := le_lt [x0, x1, x2, x3]
  simp only [List.length_cons, List.length_nil] at hb
  exact IntWalk.u32_in _ (by omega)
end Go.Proofs.YtfplgggepoaajaaGreat
