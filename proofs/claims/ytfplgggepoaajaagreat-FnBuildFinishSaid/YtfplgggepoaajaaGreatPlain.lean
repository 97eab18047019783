/- Plain facts about a Builder's bytes, for the statements. -/
import Derived.Test.YtfplgggepoaajaaGreatBRun
import Derived.OpenShut
namespace Go.Proofs.YtfplgggepoaajaaGreat
open Go.RowKit
set_option linter.unusedVariables false
set_option linter.unusedSimpArgs false

theorem padB_mod (u s : Nat) (hs : algn s) : (padB u s + u) % s = 0 := by
  unfold padB; unfold algn at hs
  rcases hs with rfl | rfl | rfl | rfl | rfl <;> omega
theorem prep_mod (m : BM) (size add : Nat) (hs : algn size) : ((m.prep size add).bytes.length + add) % size = 0 := by
  rw [m.prep_len size add hs]
  have := padB_mod (m.bytes.length + add) size hs
  unfold BM.pad
  rw [Nat.add_assoc]; exact this
theorem prep_bytes (m : BM) (size add : Nat) : (m.prep size add).bytes = List.replicate (m.pad size add) 0 ++ m.bytes := rfl
theorem prep_id (m : BM) (size add : Nat) (hs : algn size) (h : (m.bytes.length + add) % size = 0) : (m.prep size add).bytes = m.bytes := by
  have e : m.pad size add = 0 := by
    unfold BM.pad padB
    rw [h]
    unfold algn at hs
    rw [Nat.sub_zero, Nat.mod_self]
  rw [prep_bytes, e]; rfl
/-- The bytes of a string. -/
theorem text_true (m : BM) (xs : List UInt8) : ∃ k, k < 4 ∧ (m.text xs true).bytes = leB 4 xs.length ++ (xs ++ (0 :: (List.replicate k 0 ++ m.bytes))) ∧ (m.text xs true).bytes.length % 4 = 0 := by
  have ha : algn 4 := by unfold algn; omega
  refine ⟨m.pad 4 (xs.length + 1), m.pad_lt 4 _ ha, rfl, ?_⟩
  have h := prep_mod m 4 (xs.length + 1) ha
  have e : (m.text xs true).bytes = leB 4 xs.length ++ (xs ++ ([0] ++ (m.prep 4 (xs.length + 1)).bytes)) := rfl
  rw [e]
  simp only [List.length_append, leB_length, List.length_singleton]
  omega
theorem text_false (m : BM) (xs : List UInt8) : ∃ k, k < 4 ∧ (m.text xs false).bytes = leB 4 xs.length ++ (xs ++ (List.replicate k 0 ++ m.bytes)) ∧ (m.text xs false).bytes.length % 4 = 0 := by
  have ha : algn 4 := by unfold algn; omega
  refine ⟨m.pad 4 xs.length, m.pad_lt 4 _ ha, rfl, ?_⟩
  have h := prep_mod m 4 xs.length ha
  have e : (m.text xs false).bytes = leB 4 xs.length ++ (xs ++ (m.prep 4 xs.length).bytes) := rfl
  rw [e]
  simp only [List.length_append, leB_length]
  omega
/-- An object that is begun has its fields. -/
def HasVt (st : BSt) : Prop := st.nested = true → ∃ l, st.vtab = some l
theorem HasVt.slot {st st' : BSt} {i : Int} (e : st.slot i = some st') (h : HasVt st) : HasVt st' := by
  unfold BSt.slot at e
  split at e
  · cases e
  · split at e
    · injection e with e; subst e; exact fun _ => ⟨_, rfl⟩
    · cases e
theorem HasVt.refer {st st' : BSt} {off : Nat} (e : st.refer off = some st') (h : HasVt st) : HasVt st' := by
  unfold BSt.refer at e
  cases hm : st.m.refer off with
  | none => rw [hm] at e; cases e
  | some m => rw [hm] at e; injection e with e; subst e; exact h
theorem HasVt.created {st st' : BSt} {xs : List UInt8} {z : Bool} {n : Nat} (e : st.created xs z = some (n, st')) : st'.nested = false := by
  cases hn : st.nested with
  | true => rw [created_none st xs z hn] at e; cases e
  | false => rw [created_eq st xs z hn] at e; injection e with e; injection e with _ e; subst e; rfl
theorem HasVt.step {st st' : BSt} {s : BS} {off r : Nat} {t : List UInt8} (h : HasVt st) (h10 : s.op ≠ 10) (e : mStep st s off = some (r, t, st')) : HasVt st' := by
  unfold mStep at e
  split at e
  · have e := (unitN_some e).1
    unfold BSt.startObj at e
    split at e
    · cases e
    · injection e with e; subst e; exact fun _ => ⟨_, rfl⟩
  · have e := (numN_some e).1
    unfold BSt.endObj at e
    split at e
    · injection e with e; injection e with _ e; subst e; exact fun hh => by cases hh
    · cases e
  · have e := (unitN_some e).1
    injection e with e; subst e; exact h
  · have e := (unitN_some e).1
    unfold BSt.prepSlot at e
    split at e
    · injection e with e; subst e; exact h
    · exact HasVt.slot e h
  · exact HasVt.refer (unitN_some e).1 h
  · have e := (unitN_some e).1
    unfold BSt.offSlot at e
    split at e
    · injection e with e; subst e; exact h
    · cases hr : st.refer off with
      | none => rw [hr] at e; cases e
      | some s1 => rw [hr] at e; exact HasVt.slot e (HasVt.refer hr h)
  · exact HasVt.refer (unitN_some e).1 h
  · have e := (unitN_some e).1
    injection e with e; subst e; exact h
  · have e := (unitN_some e).1
    unfold BSt.structSlot at e
    split at e
    · injection e with e; subst e; exact h
    · split at e
      · split at e
        · exact HasVt.slot e h
        · cases e
      · cases e
  · exact HasVt.slot (unitN_some e).1 h
  · exact absurd (by assumption) h10
  · have e := (numN_some e).1
    unfold BSt.endVec at e
    split at e
    · split at e
      · cases e
      · injection e with e; injection e with _ e; subst e; exact fun hh => by cases hh
    · cases e
  · have := HasVt.created (numN_some e).1; exact fun hh => by rw [this] at hh; cases hh
  · have := HasVt.created (numN_some e).1; exact fun hh => by rw [this] at hh; cases hh
  · have := HasVt.created (numN_some e).1; exact fun hh => by rw [this] at hh; cases hh
  · have e := (numN_some e).1
    unfold BSt.sharedStr at e
    split at e
    · injection e with e; injection e with _ e; subst e; exact h
    · cases hc : BSt.created { st with shared := some (st.shared.getD (.map [])) } s.text true with
      | none => rw [hc] at e; cases e
      | some p =>
        rw [hc] at e
        injection e with e; injection e with _ e; subst e
        have := HasVt.created (n := p.1) (st' := p.2) hc
        exact fun hh => by rw [show p.2.nested = false from this] at hh; cases hh
  · have e := (unitN_some e).1
    injection e with e; subst e; exact h
  · have e := (unitN_some e).1
    injection e with e; subst e; exact h
  · have e := (unitN_some e).1
    injection e with e; subst e; exact h
  · have e := (unitN_some e).1
    obtain ⟨hn, m, _, rfl⟩ := finish_some e
    exact h
  · have e := (unitN_some e).1
    unfold BSt.finishId at e
    split at e
    · obtain ⟨hn, m, _, rfl⟩ := finish_some e
      exact h
    · cases e
  · split at e
    · injection e with e; injection e with _ e; injection e with _ e; subst e; exact h
    · cases e
theorem safe_plain : ∀ (steps : List BS) (an : List BAns) (st : BSt), (∀ s ∈ steps, SOK s ∧ s.op ≠ 17 ∧ s.op ≠ 18 ∧ s.op ≠ 10) → HasVt st → SafeRun steps an st
  | [], _, _, _, _ => trivial
  | s :: rest, an, st, h, hv => by
    obtain ⟨h1, h17, h18, h10⟩ := h s (by simp)
    refine ⟨h1, ⟨fun e => absurd e h17, fun e => absurd e h18, fun _ hn => hv hn⟩, ?_⟩
    cases e : mStep st s (offOf s an) with
    | none => trivial
    | some x =>
      obtain ⟨r, t, st'⟩ := x
      exact safe_plain rest _ st' (fun s hs => h s (by simp [hs])) (hv.step h10 e)
theorem HasVt.start (n : Nat) : HasVt (st0 n) := fun h => by cases h
/-- One step more. -/
theorem mRunB_cons {s : BS} {rest : List BS} {an : List BAns} {st st' : BSt} {r : Nat} {t : List UInt8} (h : mStep st s (offOf s an) = some (r, t, st')) : mRunB (s :: rest) an st = mRunB rest (an ++ [⟨r, st'.m.bytes.length, t, false⟩]) st' := by
  conv => lhs; unfold mRunB
  rw [h]
theorem mRunB_stop {s : BS} {rest : List BS} {an : List BAns} {st : BSt} (h : mStep st s (offOf s an) = none) : mRunB (s :: rest) an st = (an ++ [BAns.dead], none) := by
  conv => lhs; unfold mRunB
  rw [h]
theorem refer_pos {st : BSt} {off : Nat} (h4 : st.m.bytes.length % 4 = 0) (ho : off ≤ st.m.bytes.length) : ∃ m, st.refer off = some { st with m := m } ∧ m.bytes = leB 4 (st.m.bytes.length - off + 4) ++ st.m.bytes := by
  have e := prep_id st.m 4 0 (by unfold algn; omega) h4
  refine ⟨(st.m.prep 4 0).put (leB 4 ((st.m.prep 4 0).bytes.length - off + 4)), ?_, ?_⟩
  · unfold BSt.refer BM.refer
    rw [e, if_pos ho]; rfl
  · show leB 4 _ ++ (st.m.prep 4 0).bytes = _
    rw [e]
theorem refer_neg {st : BSt} {off : Nat} (h4 : st.m.bytes.length % 4 = 0) (ho : st.m.bytes.length < off) : st.refer off = none := by
  have e := prep_id st.m 4 0 (by unfold algn; omega) h4
  unfold BSt.refer BM.refer
  rw [e, if_neg (by omega)]; rfl
theorem run_str_at {D : ByteArray} {l : List UInt8} (hD : D = strOf l) (i : Nat) {x : UInt8} (h : l[i]? = some x) (w : World) : (Instr.index 9 (.string D) (.int .i64 i)).run Tryz.prog w = .ok (.int .u8 (x.toNat : Int)) w := by
  subst hD
  obtain ⟨hlt, hx⟩ := List.getElem?_eq_some_iff.1 h
  rw [run_index_string w 9 _ .i64 i Tryz.underlying9, dif_pos ⟨by omega, by rw [strOf_size]; omega⟩, ← hx]
  rfl
theorem u32or4 (x0 x1 x2 x3 : UInt8) : bits .or .u32 (bits .or .u32 (bits .or .u32 (x0.toNat : Int) ((x1.toNat : Int) * 256)) ((x2.toNat : Int) * 65536)) ((x3.toNat : Int) * 16777216) = ((le [x0, x1, x2, x3] : Nat) : Int) := by
  have h := or4 .u32 x0 x1 x2 x3
  rw [bits_wrap_or] at h
  rw [h]
  have hb := le_lt [x0, x1, x2, x3]
  simp only [List.length_cons, List.length_nil] at hb
  exact IntWalk.u32_in _ (by omega)
end Go.Proofs.YtfplgggepoaajaaGreat
