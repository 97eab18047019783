/- A step over a Builder, plainly: what a Builder's state always is stays so. -/
import Derived.Test.YtfplgggepoaajaaGreatMStep
namespace Go.Proofs.YtfplgggepoaajaaGreat
open Go.RowKit
set_option linter.unusedVariables false
set_option linter.unusedSimpArgs false

theorem unitN_some {o : Option BSt} {r : Nat} {t : List UInt8} {st' : BSt} (h : unitN o = some (r, t, st')) : o = some st' ∧ r = 0 ∧ t = [] := by
  cases o with
  | none => cases h
  | some s => injection h with h; injection h with h1 h; injection h with h2 h3; subst h1 h2 h3; exact ⟨rfl, rfl, rfl⟩
theorem numN_some {o : Option (Nat × BSt)} {r : Nat} {t : List UInt8} {st' : BSt} (h : numN o = some (r, t, st')) : o = some (r, st') ∧ t = [] := by
  cases o with
  | none => cases h
  | some p => injection h with h; injection h with h1 h; injection h with h2 h3; subst h1 h2 h3; exact ⟨rfl, rfl⟩
theorem mStep_inv {st st' : BSt} {s : BS} {off r i : Nat} {t : List UInt8} (h : StInv st i) (hi : i ≤ 300) (hs : SOK s) (hp : SafeS st s) (e : mStep st s off = some (r, t, st')) : StInv st' (i + 1) := by
  unfold mStep at e
  split at e
  case h_1 _ hop =>
    have e := (unitN_some e).1
    unfold BSt.startObj at e
    split at e
    · cases e
    · injection e with e
      subst e
      have h0 := hs.o0 hop
      refine h.grow (st' := { st with nested := true, vtab := some (List.replicate s.slot.toNat 0), oend := st.m.bytes.length }) (Grow.refl _) (by omega) (fun l hl => ?_) rfl (Nat.le_refl _) (by have := h.sh; show Maps.size (st.shared.getD _) ≤ _; omega)
      simp only [Option.some.injEq] at hl
      subst hl
      refine ⟨by simp; omega, fun x hx => ?_⟩
      rw [(List.mem_replicate.1 hx).2]; omega
  case h_2 _ hop =>
    have e := (numN_some e).1
    unfold BSt.endObj at e
    split at e
    · injection e with e
      injection e with _ e
      subst e
      exact h.writeVt hi
    · cases e
  case h_3 _ hop =>
    have e := (unitN_some e).1
    injection e with e
    subst e
    have hr := hs.o2 (.inl hop)
    exact h.bytes (Grow.scalar st.m s.num hr.1 hr.2.1) (by omega)
  case h_4 _ hop =>
    have e := (unitN_some e).1
    have hr := (hs.o3 hop).1
    unfold BSt.prepSlot at e
    split at e
    · injection e with e; subst e; exact h.up
    · exact (h.bytes (Grow.scalar st.m s.num hr.1 hr.2.1) (by omega)).slotted e
  case h_5 _ hop => exact h.referred (unitN_some e).1
  case h_6 _ hop =>
    have e := (unitN_some e).1
    unfold BSt.offSlot at e
    split at e
    · injection e with e; subst e; exact h.up
    · cases hr : st.refer off with
      | none => rw [hr] at e; cases e
      | some s1 => rw [hr] at e; exact (h.referred hr).slotted e
  case h_7 _ hop => exact h.referred (unitN_some e).1
  case h_8 _ hop =>
    have e := (unitN_some e).1
    injection e with e
    subst e
    exact h.bytes (Grow.prepPut st.m 2 _ (by unfold algn; omega) (by rw [leB_length]; omega)) (by omega)
  case h_9 _ hop =>
    have e := (unitN_some e).1
    unfold BSt.structSlot at e
    split at e
    · injection e with e; subst e; exact h.up
    · split at e
      · split at e
        · exact h.up.slotted e
        · cases e
      · cases e
  case h_10 _ hop => exact h.up.slotted (unitN_some e).1
  case h_11 _ hop =>
    have e := (numN_some e).1
    unfold BSt.startVec at e
    split at e
    · cases e
    · injection e with e
      injection e with _ e
      subst e
      have h10 := hs.o10 hop
      exact (h.bytes (m' := (st.m.prep 4 (s.size.toNat * s.more.toNat)).prep s.by_.toNat (s.size.toNat * s.more.toNat)) ((Grow.prep _ 4 _ (by unfold algn; omega)).trans (Grow.prep _ _ _ h10.2.2.2)) (by omega)).same rfl rfl rfl rfl rfl
  case h_12 _ hop =>
    have e := (numN_some e).1
    unfold BSt.endVec at e
    split at e
    · split at e
      · cases e
      · injection e with e
        injection e with _ e
        subst e
        exact (h.bytes (m' := st.m.put (leB 4 s.slot.toNat)) (Grow.put _ _) (by rw [leB_length]; omega)).same rfl rfl rfl rfl rfl
    · cases e
  case h_13 _ hop => exact h.created hs.text (numN_some e).1
  case h_14 _ hop => exact h.created hs.text (numN_some e).1
  case h_15 _ hop => exact h.created hs.text (numN_some e).1
  case h_16 _ hop =>
    have e := (numN_some e).1
    unfold BSt.sharedStr at e
    split at e
    · injection e with e
      injection e with _ e
      subst e
      have := h.up
      exact ⟨⟨this.inv.vts, this.inv.vtab, this.inv.oend, this.inv.many⟩, this.least, this.many, this.sh, this.len⟩
    · cases hc : BSt.created { st with shared := some (st.shared.getD (.map [])) } s.text true with
      | none => rw [hc] at e; cases e
      | some p =>
        rw [hc] at e
        injection e with e
        injection e with _ e
        subst e
        have h0 : StInv { st with shared := some (st.shared.getD (.map [])) } i := ⟨⟨h.inv.vts, h.inv.vtab, h.inv.oend, h.inv.many⟩, h.least, h.many, h.sh, h.len⟩
        have h1 := h0.created hs.text hc
        refine ⟨⟨h1.inv.vts, h1.inv.vtab, h1.inv.oend, h1.inv.many⟩, h1.least, h1.many, ?_, h1.len⟩
        have := put_size (st.shared.getD (.map [])) (.string s.text) (.lit (.int .u32 p.1))
        have := h.sh
        show Maps.size ((st.shared.getD (.map [])).put (.string s.text) (.lit (.int .u32 p.1))) ≤ i + 1
        omega
  case h_17 _ hop =>
    have e := (unitN_some e).1
    injection e with e
    subst e
    exact h.bytes (Grow.prep _ _ _ (hs.o16 hop).2) (by omega)
  case h_18 _ hop =>
    have e := (unitN_some e).1
    split at e
    · injection e with e
      subst e
      exact h.bytes (Grow.put _ _) (by rw [numB_length]; have := numSize_le s.kind; omega)
    · cases e
  case h_19 _ hop =>
    have e := (unitN_some e).1
    split at e
    · injection e with e
      subst e
      have := hs.o11 (.inr hop)
      exact h.bytes (Grow.put _ _) (by simp; omega)
    · cases e
  case h_20 _ hop => exact h.finished (unitN_some e).1
  case h_21 _ hop =>
    have e := (unitN_some e).1
    unfold BSt.finishId at e
    split at e
    · obtain ⟨_, m, hm, rfl⟩ := finish_some e
      have g1 := (Grow.prep st.m _ 8 h.least).trans (Grow.put _ s.text)
      have g2 := (g1.trans (Grow.prep _ _ 4 (g1.least h.least))).trans (Grow.refer hm)
      exact (h.bytes (m' := m) g2 (by have := hs.text; omega)).same rfl rfl rfl rfl rfl
    · cases e
  case h_22 =>
    split at e
    · injection e with e
      injection e with _ e
      injection e with _ e
      subst e
      exact h.up
    · cases e
end Go.Proofs.YtfplgggepoaajaaGreat
