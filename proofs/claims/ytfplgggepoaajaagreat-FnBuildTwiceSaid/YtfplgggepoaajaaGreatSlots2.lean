/- The Builder's PrependBoolSlot, PrependUOffsetTSlot, PrependStructSlot, and offsets that are put in front. -/
import Derived.Test.YtfplgggepoaajaaGreatSlots
namespace Go.Proofs.YtfplgggepoaajaaGreat
open Go.RowKit
set_option linter.unusedVariables false
set_option linter.unusedSimpArgs false

theorem PrependBoolSlot_calls (b : Nat) (F : List Nat) (st : BSt) (i : Int) (x d : Bool) (w : World) (h : BRep w b F st) (hu : st.m.bytes.length ≤ 1900000) :
    Calls Tryz.prog 91 #[.pointer (some ⟨b, 0, none⟩), .int .i64 i, .bool x, .bool d] w (BRes w b F (unitRes (st.prepSlot 1 (leI 1 (b01 x)) i (x == d)))) := by
  have hs : st.prepSlot 1 (leI 1 (b01 x)) i (x == d) = none ∨ ∃ s, st.prepSlot 1 (leI 1 (b01 x)) i (x == d) = some s := by
    cases st.prepSlot 1 (leI 1 (b01 x)) i (x == d) with
    | none => exact .inl rfl
    | some s => exact .inr ⟨s, rfl⟩
  have HB := Lib.hid (fun w h => PrependByteSlot_calls b F st i (b01 x) (b01 d) (by cases x <;> decide) (by cases x <;> decide) (x == d) (by cases x <;> cases d <;> rfl) w h hu)
  have HH := Lib.hid h
  clear h hu
  rcases hs with hs | ⟨s, hs⟩
  all_goals
    rw [hs] at HB ⊢
    clear hs
    cases x <;> cases d
  all_goals
    go_enter Tryz.func91, Tryz.ntmps91
    go_wp2_with fail
    refine (HB.out _ HH.out).mono ?_
  all_goals first
    | (rintro e w2 ⟨⟨u, v, rfl⟩, hf⟩
       exact ⟨rfl, ⟨u, v, rfl⟩, hf⟩)
    | (rintro e w2 ⟨rfl, F2, hb2, ha2⟩
       have HB2 := Lib.hid hb2
       have HA2 := Lib.hid ha2
       clear hb2 ha2
       go_wp2_with fail
       go_end0
       exact ⟨rfl, F2, HB2.out, HA2.out⟩)

/-- An offset is put in front of a Builder whole. -/
def BSt.refer (st : BSt) (off : Nat) : Option BSt := (st.m.refer off).map fun m => { st with m := m }
theorem unitRes_refer (st : BSt) (off : Nat) : unitRes (st.refer off) = (st.m.refer off).map fun m' => (.tuple #[], { st with m := m' }) := by
  unfold unitRes BSt.refer; cases st.m.refer off <;> rfl
theorem PrependUOffsetT_b (b : Nat) (F : List Nat) (st : BSt) (off : Nat) (w : World) (h : BRep w b F st) (hu : st.m.bytes.length ≤ 1900000) (ho : off < 4294967296) :
    Calls Tryz.prog 52 #[.pointer (some ⟨b, 0, none⟩), .int .u32 off] w (BRes w b F (unitRes (st.refer off))) := by
  rw [unitRes_refer]
  exact h.liftO fun Y r c hb => PrependUOffsetT_calls b Y r st.m c off w hb hu ho

def BSt.offSlot (st : BSt) (i : Int) (off d : Nat) : Option BSt :=
  if off = d then some st else (st.refer off).bind fun s => s.slot i
theorem PrependUOffsetTSlot_calls (b : Nat) (F : List Nat) (st : BSt) (i : Int) (off d : Nat) (w : World) (h : BRep w b F st) (hu : st.m.bytes.length ≤ 1900000) (ho : off < 4294967296) :
    Calls Tryz.prog 53 #[.pointer (some ⟨b, 0, none⟩), .int .i64 i, .int .u32 off, .int .u32 d] w (BRes w b F (unitRes (st.offSlot i off d))) := by
  by_cases hd : off = d
  · have e : st.offSlot i off d = some st := if_pos hd
    rw [e]
    subst hd
    have HH := Lib.hid h
    clear h e
    go_enter Tryz.func53, Tryz.ntmps53
    go_wp2_with fail
    go_end0
    exact ⟨rfl, F, HH.out, Adv.refl _ _⟩
  · have e : st.offSlot i off d = (st.refer off).bind fun s => s.slot i := if_neg hd
    rw [e]
    have HP := Lib.hid (PrependUOffsetT_b b F st off w h hu ho)
    have hq1 : ((off : Int) == (d : Int)) = false := by rw [beq_eq_false_iff_ne]; omega
    have hq2 : ((off : Int) != (d : Int)) = true := by simp only [bne, hq1]; rfl
    have hq3 : (off == d) = false := by rw [beq_eq_false_iff_ne]; exact hd
    have hq4 : (off != d) = true := by simp only [bne, hq3]; rfl
    clear h e hd
    cases hr : st.refer off with
    | none =>
      rw [hr] at HP
      clear hr
      go_enter Tryz.func53, Tryz.ntmps53
      go_wp2_with fail
      refine HP.out.mono ?_
      rintro e w2 ⟨⟨u, v, rfl⟩, hf⟩
      exact ⟨rfl, ⟨u, v, rfl⟩, hf⟩
    | some s1 =>
      rw [hr] at HP
      clear hr
      show Calls _ _ _ _ (BRes w b F (unitRes (s1.slot i)))
      have hs : s1.slot i = none ∨ ∃ s, s1.slot i = some s := by
        cases s1.slot i with
        | none => exact .inl rfl
        | some s => exact .inr ⟨s, rfl⟩
      rcases hs with hs | ⟨s, hs⟩
      all_goals
        rw [hs]
        have HS := Lib.hid hs
        clear hs
        go_enter Tryz.func53, Tryz.ntmps53
        go_wp2_with fail
        refine HP.out.mono ?_
        rintro e w1 ⟨rfl, F1, hb1, ha1⟩
        have HC := Lib.hid (Slot_calls b F1 _ i w1 hb1)
        rw [HS.out] at HC
        have HA := Lib.hid ha1
        clear hb1 ha1
        go_wp2_with fail
      · refine HC.out.mono ?_
        rintro e w2 ⟨⟨u, v, rfl⟩, hf⟩
        exact ⟨rfl, HA.out.falls ⟨⟨u, v, rfl⟩, hf⟩⟩
      · refine HC.out.mono ?_
        rintro e w2 ⟨rfl, F2, hb2, ha2⟩
        have HB2 := Lib.hid hb2
        have HA2 := Lib.hid ha2
        clear hb2 ha2
        go_wp2_with fail
        go_end0
        exact ⟨rfl, F2, HB2.out, HA.out.trans HA2.out⟩

def BSt.structSlot (st : BSt) (i : Int) (off d : Nat) : Option BSt :=
  if off = d then some st else if st.nested then if off = st.m.bytes.length then st.slot i else none else none
theorem PrependStructSlot_calls (b : Nat) (F : List Nat) (st : BSt) (i : Int) (off d : Nat) (w : World) (h : BRep w b F st) :
    Calls Tryz.prog 56 #[.pointer (some ⟨b, 0, none⟩), .int .i64 i, .int .u32 off, .int .u32 d] w (BRes w b F (unitRes (st.structSlot i off d))) := by
  have HH := Lib.hid h
  by_cases hd : off = d
  · have e : st.structSlot i off d = some st := if_pos hd
    rw [e]
    subst hd
    clear h e
    go_enter Tryz.func56, Tryz.ntmps56
    go_wp2_with fail
    go_end0
    exact ⟨rfl, F, HH.out, Adv.refl _ _⟩
  · have e : st.structSlot i off d = if st.nested then if off = st.m.bytes.length then st.slot i else none else none := if_neg hd
    rw [e]
    have HN := Lib.hid (assertNested_calls b F st w h)
    have HO := Lib.hid (Offset_b b F st w h)
    have HL := Lib.hid (fun n => Slot_calls b F st i (w.drewN n) (h.drewN n))
    have hq1 : ((off : Int) == (d : Int)) = false := by rw [beq_eq_false_iff_ne]; omega
    have hq2 : ((off : Int) != (d : Int)) = true := by simp only [bne, hq1]; rfl
    have hq3 : (off == d) = false := by rw [beq_eq_false_iff_ne]; exact hd
    have hq4 : (off != d) = true := by simp only [bne, hq3]; rfl
    clear h e hd
    cases hn : st.nested with
    | false =>
      rw [hn] at HN
      clear hn
      go_enter Tryz.func56, Tryz.ntmps56
      go_wp2_with fail
      refine HN.out.mono ?_
      rintro e w2 ⟨⟨u, v, rfl⟩, rfl⟩
      exact ⟨rfl, ⟨u, v, rfl⟩, Fr.refl _ _⟩
    | true =>
      rw [hn] at HN
      clear hn
      rw [if_pos rfl]
      obtain ⟨len, hlen⟩ : ∃ len, len = st.m.bytes.length := ⟨_, rfl⟩
      rw [← hlen] at HO ⊢
      clear hlen
      by_cases hl : off = len
      · rw [if_pos hl]
        subst hl
        have hs : st.slot i = none ∨ ∃ s, st.slot i = some s := by
          cases st.slot i with
          | none => exact .inl rfl
          | some s => exact .inr ⟨s, rfl⟩
        rcases hs with hs | ⟨s, hs⟩
        all_goals
          rw [hs] at HL ⊢
          clear hs
          go_enter Tryz.func56, Tryz.ntmps56
          go_wp2_with fail
          refine HN.out.mono ?_
          rintro e w' ⟨rfl, rfl⟩
          go_wp2_with fail
          refine HO.out.mono ?_
          rintro e w1 ⟨rfl, n, rfl⟩
          go_wp2_with fail
          refine (HL.out n).mono ?_
        · rintro e w2 ⟨⟨u, v, rfl⟩, hf⟩
          exact ⟨rfl, ⟨u, v, rfl⟩, hf.fromDrewN⟩
        · rintro e w2 ⟨rfl, F2, hb2, ha2⟩
          have HB2 := Lib.hid hb2
          have HA2 := Lib.hid ha2
          clear hb2 ha2
          go_wp2_with fail
          go_end0
          exact ⟨rfl, F2, HB2.out, HA2.out.of_drewN⟩
      · rw [if_neg hl]
        have hr1 : ((off : Int) == (len : Int)) = false := by rw [beq_eq_false_iff_ne]; omega
        have hr2 : ((off : Int) != (len : Int)) = true := by simp only [bne, hr1]; rfl
        have hr3 : (off == len) = false := by rw [beq_eq_false_iff_ne]; exact hl
        have hr4 : (off != len) = true := by simp only [bne, hr3]; rfl
        clear hl
        go_enter Tryz.func56, Tryz.ntmps56
        go_wp2_with fail
        refine HN.out.mono ?_
        rintro e w' ⟨rfl, rfl⟩
        go_wp2_with fail
        refine HO.out.mono ?_
        rintro e w1 ⟨rfl, n, rfl⟩
        go_wp2_with fail
        exact ⟨rfl, ⟨_, _, rfl⟩, (Fr.refl _ _).drewN _⟩
end Go.Proofs.YtfplgggepoaajaaGreat
