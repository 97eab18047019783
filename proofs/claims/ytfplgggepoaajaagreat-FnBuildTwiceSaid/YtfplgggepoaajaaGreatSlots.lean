/- The Builder's Prepend..Slot: a number of an object, unless it equals its default. -/
import Derived.Test.YtfplgggepoaajaaGreatCreate
namespace Go.Proofs.YtfplgggepoaajaaGreat
open Go.RowKit
set_option linter.unusedVariables false
set_option linter.unusedSimpArgs false

theorem Adv.falls {w w1 w2 : World} {F F1 : List Nat} {e : Ending} (h : Adv w w1 F F1) (k : Falls2 (fun x => x ∈ F1) w1 e w2) : Falls2 (fun x => x ∈ F) w e w2 := by
  refine ⟨k.1, h.1.trans2 k.2 (fun i hi hm => ?_)⟩
  rcases h.2 i hm with h | h
  · exact h
  · omega
def unitRes (o : Option BSt) : Option (Value × BSt) := o.map fun s => (.tuple #[], s)
/-- A number of some bytes as a field, unless it equals its default. -/
def BSt.prepSlot (st : BSt) (z : Nat) (xs : List UInt8) (i : Int) (same : Bool) : Option BSt :=
  if same then some st else BSt.slot { st with m := (st.m.prep z 0).put xs } i
theorem run_neq_f32 (x d : Nat) (w : World) : (binOp .neq 120 (.float .f32 x) (.float .f32 d)).run Tryz.prog w = .ok (.bool (!Op.floatEq .f32 x d)) w := by
  simp [binOp, Op.floatCmp, Op.floatEq, bne, go_sem]
theorem run_neq_f64 (x d : Nat) (w : World) : (binOp .neq 123 (.float .f64 x) (.float .f64 d)).run Tryz.prog w = .ok (.bool (!Op.floatEq .f64 x d)) w := by
  simp [binOp, Op.floatCmp, Op.floatEq, bne, go_sem]

theorem PrependUint8Slot_calls (b : Nat) (F : List Nat) (st : BSt) (i : Int) (x d : Int) (h0 : 0 ≤ x) (h1 : x < 256) (q : Bool) (hq : (x == d) = q) (w : World) (h : BRep w b F st) (hu : st.m.bytes.length ≤ 1900000) :
    Calls Tryz.prog 92 #[.pointer (some ⟨b, 0, none⟩), .int .i64 i, .int .u8 x, .int .u8 d] w (BRes w b F (unitRes (st.prepSlot 1 (leI 1 x) i q))) := by
  cases q with
  | true =>
    have HH := Lib.hid h
    have hq2 : (x != d) = false := by simp only [bne, hq]; rfl
    clear h
    go_enter Tryz.func92, Tryz.ntmps92
    go_wp2_with fail
    go_end0
    exact ⟨rfl, F, HH.out, Adv.refl _ _⟩
  | false =>
    have HP := Lib.hid (h.lift (m' := (st.m.prep 1 0).put (leI 1 x)) (fun Y r c hb => PrependUint8_calls b Y r st.m c x h0 h1 w hb hu))
    have hq2 : (x != d) = true := by simp only [bne, hq]; rfl
    have hs : (BSt.slot { st with m := (st.m.prep 1 0).put (leI 1 x) } i = none) ∨ ∃ s, BSt.slot { st with m := (st.m.prep 1 0).put (leI 1 x) } i = some s := by
      cases BSt.slot { st with m := (st.m.prep 1 0).put (leI 1 x) } i with
      | none => exact .inl rfl
      | some s => exact .inr ⟨s, rfl⟩
    show Calls _ _ _ _ (BRes w b F (unitRes (BSt.slot { st with m := (st.m.prep 1 0).put (leI 1 x) } i)))
    clear h
    rcases hs with hs | ⟨s, hs⟩
    all_goals
      rw [hs]
      have HS := Lib.hid hs
      clear hs
      go_enter Tryz.func92, Tryz.ntmps92
      go_wp2_with fail
      refine HP.out.mono ?_
      rintro e w1 ⟨rfl, F1, hb1, ha1⟩
      have HC := Lib.hid (Slot_calls b F1 _ i w1 hb1)
      rw [HS.out] at HC
      have HA := Lib.hid ha1
      clear hb1 ha1
      go_wp2_with fail
    · refine HC.out.mono ?_
      rintro e w2 ⟨⟨u, v, rfl⟩, hf⟩
      exact ⟨rfl, HA.out.falls ⟨⟨u, v, rfl⟩, hf⟩⟩
    · refine HC.out.mono ?_
      rintro e w2 ⟨rfl, F2, hb2, ha2⟩
      have HB2 := Lib.hid hb2
      have HA2 := Lib.hid ha2
      clear hb2 ha2
      go_wp2_with fail
      go_end0
      exact ⟨rfl, F2, HB2.out, HA.out.trans HA2.out⟩

theorem PrependByteSlot_calls (b : Nat) (F : List Nat) (st : BSt) (i : Int) (x d : Int) (h0 : 0 ≤ x) (h1 : x < 256) (q : Bool) (hq : (x == d) = q) (w : World) (h : BRep w b F st) (hu : st.m.bytes.length ≤ 1900000) :
    Calls Tryz.prog 123 #[.pointer (some ⟨b, 0, none⟩), .int .i64 i, .int .u8 x, .int .u8 d] w (BRes w b F (unitRes (st.prepSlot 1 (leI 1 x) i q))) := by
  cases q with
  | true =>
    have HH := Lib.hid h
    have hq2 : (x != d) = false := by simp only [bne, hq]; rfl
    clear h
    go_enter Tryz.func123, Tryz.ntmps123
    go_wp2_with fail
    go_end0
    exact ⟨rfl, F, HH.out, Adv.refl _ _⟩
  | false =>
    have HP := Lib.hid (h.lift (m' := (st.m.prep 1 0).put (leI 1 x)) (fun Y r c hb => PrependByte_calls b Y r st.m c x h0 h1 w hb hu))
    have hq2 : (x != d) = true := by simp only [bne, hq]; rfl
    have hs : (BSt.slot { st with m := (st.m.prep 1 0).put (leI 1 x) } i = none) ∨ ∃ s, BSt.slot { st with m := (st.m.prep 1 0).put (leI 1 x) } i = some s := by
      cases BSt.slot { st with m := (st.m.prep 1 0).put (leI 1 x) } i with
      | none => exact .inl rfl
      | some s => exact .inr ⟨s, rfl⟩
    show Calls _ _ _ _ (BRes w b F (unitRes (BSt.slot { st with m := (st.m.prep 1 0).put (leI 1 x) } i)))
    clear h
    rcases hs with hs | ⟨s, hs⟩
    all_goals
      rw [hs]
      have HS := Lib.hid hs
      clear hs
      go_enter Tryz.func123, Tryz.ntmps123
      go_wp2_with fail
      refine HP.out.mono ?_
      rintro e w1 ⟨rfl, F1, hb1, ha1⟩
      have HC := Lib.hid (Slot_calls b F1 _ i w1 hb1)
      rw [HS.out] at HC
      have HA := Lib.hid ha1
      clear hb1 ha1
      go_wp2_with fail
    · refine HC.out.mono ?_
      rintro e w2 ⟨⟨u, v, rfl⟩, hf⟩
      exact ⟨rfl, HA.out.falls ⟨⟨u, v, rfl⟩, hf⟩⟩
    · refine HC.out.mono ?_
      rintro e w2 ⟨rfl, F2, hb2, ha2⟩
      have HB2 := Lib.hid hb2
      have HA2 := Lib.hid ha2
      clear hb2 ha2
      go_wp2_with fail
      go_end0
      exact ⟨rfl, F2, HB2.out, HA.out.trans HA2.out⟩

theorem PrependInt8Slot_calls (b : Nat) (F : List Nat) (st : BSt) (i : Int) (x d : Int) (q : Bool) (hq : (x == d) = q) (w : World) (h : BRep w b F st) (hu : st.m.bytes.length ≤ 1900000) :
    Calls Tryz.prog 93 #[.pointer (some ⟨b, 0, none⟩), .int .i64 i, .int .i8 x, .int .i8 d] w (BRes w b F (unitRes (st.prepSlot 1 (leI 1 x) i q))) := by
  cases q with
  | true =>
    have HH := Lib.hid h
    have hq2 : (x != d) = false := by simp only [bne, hq]; rfl
    clear h
    go_enter Tryz.func93, Tryz.ntmps93
    go_wp2_with fail
    go_end0
    exact ⟨rfl, F, HH.out, Adv.refl _ _⟩
  | false =>
    have HP := Lib.hid (h.lift (m' := (st.m.prep 1 0).put (leI 1 x)) (fun Y r c hb => PrependInt8_calls b Y r st.m c x w hb hu))
    have hq2 : (x != d) = true := by simp only [bne, hq]; rfl
    have hs : (BSt.slot { st with m := (st.m.prep 1 0).put (leI 1 x) } i = none) ∨ ∃ s, BSt.slot { st with m := (st.m.prep 1 0).put (leI 1 x) } i = some s := by
      cases BSt.slot { st with m := (st.m.prep 1 0).put (leI 1 x) } i with
      | none => exact .inl rfl
      | some s => exact .inr ⟨s, rfl⟩
    show Calls _ _ _ _ (BRes w b F (unitRes (BSt.slot { st with m := (st.m.prep 1 0).put (leI 1 x) } i)))
    clear h
    rcases hs with hs | ⟨s, hs⟩
    all_goals
      rw [hs]
      have HS := Lib.hid hs
      clear hs
      go_enter Tryz.func93, Tryz.ntmps93
      go_wp2_with fail
      refine HP.out.mono ?_
      rintro e w1 ⟨rfl, F1, hb1, ha1⟩
      have HC := Lib.hid (Slot_calls b F1 _ i w1 hb1)
      rw [HS.out] at HC
      have HA := Lib.hid ha1
      clear hb1 ha1
      go_wp2_with fail
    · refine HC.out.mono ?_
      rintro e w2 ⟨⟨u, v, rfl⟩, hf⟩
      exact ⟨rfl, HA.out.falls ⟨⟨u, v, rfl⟩, hf⟩⟩
    · refine HC.out.mono ?_
      rintro e w2 ⟨rfl, F2, hb2, ha2⟩
      have HB2 := Lib.hid hb2
      have HA2 := Lib.hid ha2
      clear hb2 ha2
      go_wp2_with fail
      go_end0
      exact ⟨rfl, F2, HB2.out, HA.out.trans HA2.out⟩

theorem PrependUint16Slot_calls (b : Nat) (F : List Nat) (st : BSt) (i : Int) (x d : Int) (q : Bool) (hq : (x == d) = q) (w : World) (h : BRep w b F st) (hu : st.m.bytes.length ≤ 1900000) :
    Calls Tryz.prog 94 #[.pointer (some ⟨b, 0, none⟩), .int .i64 i, .int .u16 x, .int .u16 d] w (BRes w b F (unitRes (st.prepSlot 2 (leI 2 x) i q))) := by
  cases q with
  | true =>
    have HH := Lib.hid h
    have hq2 : (x != d) = false := by simp only [bne, hq]; rfl
    clear h
    go_enter Tryz.func94, Tryz.ntmps94
    go_wp2_with fail
    go_end0
    exact ⟨rfl, F, HH.out, Adv.refl _ _⟩
  | false =>
    have HP := Lib.hid (h.lift (m' := (st.m.prep 2 0).put (leI 2 x)) (fun Y r c hb => PrependUint16_calls b Y r st.m c x w hb hu))
    have hq2 : (x != d) = true := by simp only [bne, hq]; rfl
    have hs : (BSt.slot { st with m := (st.m.prep 2 0).put (leI 2 x) } i = none) ∨ ∃ s, BSt.slot { st with m := (st.m.prep 2 0).put (leI 2 x) } i = some s := by
      cases BSt.slot { st with m := (st.m.prep 2 0).put (leI 2 x) } i with
      | none => exact .inl rfl
      | some s => exact .inr ⟨s, rfl⟩
    show Calls _ _ _ _ (BRes w b F (unitRes (BSt.slot { st with m := (st.m.prep 2 0).put (leI 2 x) } i)))
    clear h
    rcases hs with hs | ⟨s, hs⟩
    all_goals
      rw [hs]
      have HS := Lib.hid hs
      clear hs
      go_enter Tryz.func94, Tryz.ntmps94
      go_wp2_with fail
      refine HP.out.mono ?_
      rintro e w1 ⟨rfl, F1, hb1, ha1⟩
      have HC := Lib.hid (Slot_calls b F1 _ i w1 hb1)
      rw [HS.out] at HC
      have HA := Lib.hid ha1
      clear hb1 ha1
      go_wp2_with fail
    · refine HC.out.mono ?_
      rintro e w2 ⟨⟨u, v, rfl⟩, hf⟩
      exact ⟨rfl, HA.out.falls ⟨⟨u, v, rfl⟩, hf⟩⟩
    · refine HC.out.mono ?_
      rintro e w2 ⟨rfl, F2, hb2, ha2⟩
      have HB2 := Lib.hid hb2
      have HA2 := Lib.hid ha2
      clear hb2 ha2
      go_wp2_with fail
      go_end0
      exact ⟨rfl, F2, HB2.out, HA.out.trans HA2.out⟩

theorem PrependInt16Slot_calls (b : Nat) (F : List Nat) (st : BSt) (i : Int) (x d : Int) (q : Bool) (hq : (x == d) = q) (w : World) (h : BRep w b F st) (hu : st.m.bytes.length ≤ 1900000) :
    Calls Tryz.prog 95 #[.pointer (some ⟨b, 0, none⟩), .int .i64 i, .int .i16 x, .int .i16 d] w (BRes w b F (unitRes (st.prepSlot 2 (leI 2 x) i q))) := by
  cases q with
  | true =>
    have HH := Lib.hid h
    have hq2 : (x != d) = false := by simp only [bne, hq]; rfl
    clear h
    go_enter Tryz.func95, Tryz.ntmps95
    go_wp2_with fail
    go_end0
    exact ⟨rfl, F, HH.out, Adv.refl _ _⟩
  | false =>
    have HP := Lib.hid (h.lift (m' := (st.m.prep 2 0).put (leI 2 x)) (fun Y r c hb => PrependInt16_calls b Y r st.m c x w hb hu))
    have hq2 : (x != d) = true := by simp only [bne, hq]; rfl
    have hs : (BSt.slot { st with m := (st.m.prep 2 0).put (leI 2 x) } i = none) ∨ ∃ s, BSt.slot { st with m := (st.m.prep 2 0).put (leI 2 x) } i = some s := by
      cases BSt.slot { st with m := (st.m.prep 2 0).put (leI 2 x) } i with
      | none => exact .inl rfl
      | some s => exact .inr ⟨s, rfl⟩
    show Calls _ _ _ _ (BRes w b F (unitRes (BSt.slot { st with m := (st.m.prep 2 0).put (leI 2 x) } i)))
    clear h
    rcases hs with hs | ⟨s, hs⟩
    all_goals
      rw [hs]
      have HS := Lib.hid hs
      clear hs
      go_enter Tryz.func95, Tryz.ntmps95
      go_wp2_with fail
      refine HP.out.mono ?_
      rintro e w1 ⟨rfl, F1, hb1, ha1⟩
      have HC := Lib.hid (Slot_calls b F1 _ i w1 hb1)
      rw [HS.out] at HC
      have HA := Lib.hid ha1
      clear hb1 ha1
      go_wp2_with fail
    · refine HC.out.mono ?_
      rintro e w2 ⟨⟨u, v, rfl⟩, hf⟩
      exact ⟨rfl, HA.out.falls ⟨⟨u, v, rfl⟩, hf⟩⟩
    · refine HC.out.mono ?_
      rintro e w2 ⟨rfl, F2, hb2, ha2⟩
      have HB2 := Lib.hid hb2
      have HA2 := Lib.hid ha2
      clear hb2 ha2
      go_wp2_with fail
      go_end0
      exact ⟨rfl, F2, HB2.out, HA.out.trans HA2.out⟩

theorem PrependUint32Slot_calls (b : Nat) (F : List Nat) (st : BSt) (i : Int) (x d : Int) (q : Bool) (hq : (x == d) = q) (w : World) (h : BRep w b F st) (hu : st.m.bytes.length ≤ 1900000) :
    Calls Tryz.prog 96 #[.pointer (some ⟨b, 0, none⟩), .int .i64 i, .int .u32 x, .int .u32 d] w (BRes w b F (unitRes (st.prepSlot 4 (leI 4 x) i q))) := by
  cases q with
  | true =>
    have HH := Lib.hid h
    have hq2 : (x != d) = false := by simp only [bne, hq]; rfl
    clear h
    go_enter Tryz.func96, Tryz.ntmps96
    go_wp2_with fail
    go_end0
    exact ⟨rfl, F, HH.out, Adv.refl _ _⟩
  | false =>
    have HP := Lib.hid (h.lift (m' := (st.m.prep 4 0).put (leI 4 x)) (fun Y r c hb => PrependUint32_calls b Y r st.m c x w hb hu))
    have hq2 : (x != d) = true := by simp only [bne, hq]; rfl
    have hs : (BSt.slot { st with m := (st.m.prep 4 0).put (leI 4 x) } i = none) ∨ ∃ s, BSt.slot { st with m := (st.m.prep 4 0).put (leI 4 x) } i = some s := by
      cases BSt.slot { st with m := (st.m.prep 4 0).put (leI 4 x) } i with
      | none => exact .inl rfl
      | some s => exact .inr ⟨s, rfl⟩
    show Calls _ _ _ _ (BRes w b F (unitRes (BSt.slot { st with m := (st.m.prep 4 0).put (leI 4 x) } i)))
    clear h
    rcases hs with hs | ⟨s, hs⟩
    all_goals
      rw [hs]
      have HS := Lib.hid hs
      clear hs
      go_enter Tryz.func96, Tryz.ntmps96
      go_wp2_with fail
      refine HP.out.mono ?_
      rintro e w1 ⟨rfl, F1, hb1, ha1⟩
      have HC := Lib.hid (Slot_calls b F1 _ i w1 hb1)
      rw [HS.out] at HC
      have HA := Lib.hid ha1
      clear hb1 ha1
      go_wp2_with fail
    · refine HC.out.mono ?_
      rintro e w2 ⟨⟨u, v, rfl⟩, hf⟩
      exact ⟨rfl, HA.out.falls ⟨⟨u, v, rfl⟩, hf⟩⟩
    · refine HC.out.mono ?_
      rintro e w2 ⟨rfl, F2, hb2, ha2⟩
      have HB2 := Lib.hid hb2
      have HA2 := Lib.hid ha2
      clear hb2 ha2
      go_wp2_with fail
      go_end0
      exact ⟨rfl, F2, HB2.out, HA.out.trans HA2.out⟩

theorem PrependInt32Slot_calls (b : Nat) (F : List Nat) (st : BSt) (i : Int) (x d : Int) (q : Bool) (hq : (x == d) = q) (w : World) (h : BRep w b F st) (hu : st.m.bytes.length ≤ 1900000) :
    Calls Tryz.prog 97 #[.pointer (some ⟨b, 0, none⟩), .int .i64 i, .int .i32 x, .int .i32 d] w (BRes w b F (unitRes (st.prepSlot 4 (leI 4 x) i q))) := by
  cases q with
  | true =>
    have HH := Lib.hid h
    have hq2 : (x != d) = false := by simp only [bne, hq]; rfl
    clear h
    go_enter Tryz.func97, Tryz.ntmps97
    go_wp2_with fail
    go_end0
    exact ⟨rfl, F, HH.out, Adv.refl _ _⟩
  | false =>
    have HP := Lib.hid (h.lift (m' := (st.m.prep 4 0).put (leI 4 x)) (fun Y r c hb => PrependInt32_calls b Y r st.m c x w hb hu))
    have hq2 : (x != d) = true := by simp only [bne, hq]; rfl
    have hs : (BSt.slot { st with m := (st.m.prep 4 0).put (leI 4 x) } i = none) ∨ ∃ s, BSt.slot { st with m := (st.m.prep 4 0).put (leI 4 x) } i = some s := by
      cases BSt.slot { st with m := (st.m.prep 4 0).put (leI 4 x) } i with
      | none => exact .inl rfl
      | some s => exact .inr ⟨s, rfl⟩
    show Calls _ _ _ _ (BRes w b F (unitRes (BSt.slot { st with m := (st.m.prep 4 0).put (leI 4 x) } i)))
    clear h
    rcases hs with hs | ⟨s, hs⟩
    all_goals
      rw [hs]
      have HS := Lib.hid hs
      clear hs
      go_enter Tryz.func97, Tryz.ntmps97
      go_wp2_with fail
      refine HP.out.mono ?_
      rintro e w1 ⟨rfl, F1, hb1, ha1⟩
      have HC := Lib.hid (Slot_calls b F1 _ i w1 hb1)
      rw [HS.out] at HC
      have HA := Lib.hid ha1
      clear hb1 ha1
      go_wp2_with fail
    · refine HC.out.mono ?_
      rintro e w2 ⟨⟨u, v, rfl⟩, hf⟩
      exact ⟨rfl, HA.out.falls ⟨⟨u, v, rfl⟩, hf⟩⟩
    · refine HC.out.mono ?_
      rintro e w2 ⟨rfl, F2, hb2, ha2⟩
      have HB2 := Lib.hid hb2
      have HA2 := Lib.hid ha2
      clear hb2 ha2
      go_wp2_with fail
      go_end0
      exact ⟨rfl, F2, HB2.out, HA.out.trans HA2.out⟩

theorem PrependUint64Slot_calls (b : Nat) (F : List Nat) (st : BSt) (i : Int) (x d : Int) (q : Bool) (hq : (x == d) = q) (w : World) (h : BRep w b F st) (hu : st.m.bytes.length ≤ 1900000) :
    Calls Tryz.prog 98 #[.pointer (some ⟨b, 0, none⟩), .int .i64 i, .int .u64 x, .int .u64 d] w (BRes w b F (unitRes (st.prepSlot 8 (leI 8 x) i q))) := by
  cases q with
  | true =>
    have HH := Lib.hid h
    have hq2 : (x != d) = false := by simp only [bne, hq]; rfl
    clear h
    go_enter Tryz.func98, Tryz.ntmps98
    go_wp2_with fail
    go_end0
    exact ⟨rfl, F, HH.out, Adv.refl _ _⟩
  | false =>
    have HP := Lib.hid (h.lift (m' := (st.m.prep 8 0).put (leI 8 x)) (fun Y r c hb => PrependUint64_calls b Y r st.m c x w hb hu))
    have hq2 : (x != d) = true := by simp only [bne, hq]; rfl
    have hs : (BSt.slot { st with m := (st.m.prep 8 0).put (leI 8 x) } i = none) ∨ ∃ s, BSt.slot { st with m := (st.m.prep 8 0).put (leI 8 x) } i = some s := by
      cases BSt.slot { st with m := (st.m.prep 8 0).put (leI 8 x) } i with
      | none => exact .inl rfl
      | some s => exact .inr ⟨s, rfl⟩
    show Calls _ _ _ _ (BRes w b F (unitRes (BSt.slot { st with m := (st.m.prep 8 0).put (leI 8 x) } i)))
    clear h
    rcases hs with hs | ⟨s, hs⟩
    all_goals
      rw [hs]
      have HS := Lib.hid hs
      clear hs
      go_enter Tryz.func98, Tryz.ntmps98
      go_wp2_with fail
      refine HP.out.mono ?_
      rintro e w1 ⟨rfl, F1, hb1, ha1⟩
      have HC := Lib.hid (Slot_calls b F1 _ i w1 hb1)
      rw [HS.out] at HC
      have HA := Lib.hid ha1
      clear hb1 ha1
      go_wp2_with fail
    · refine HC.out.mono ?_
      rintro e w2 ⟨⟨u, v, rfl⟩, hf⟩
      exact ⟨rfl, HA.out.falls ⟨⟨u, v, rfl⟩, hf⟩⟩
    · refine HC.out.mono ?_
      rintro e w2 ⟨rfl, F2, hb2, ha2⟩
      have HB2 := Lib.hid hb2
      have HA2 := Lib.hid ha2
      clear hb2 ha2
      go_wp2_with fail
      go_end0
      exact ⟨rfl, F2, HB2.out, HA.out.trans HA2.out⟩

theorem PrependInt64Slot_calls (b : Nat) (F : List Nat) (st : BSt) (i : Int) (x d : Int) (q : Bool) (hq : (x == d) = q) (w : World) (h : BRep w b F st) (hu : st.m.bytes.length ≤ 1900000) :
    Calls Tryz.prog 99 #[.pointer (some ⟨b, 0, none⟩), .int .i64 i, .int .i64 x, .int .i64 d] w (BRes w b F (unitRes (st.prepSlot 8 (leI 8 x) i q))) := by
  cases q with
  | true =>
    have HH := Lib.hid h
    have hq2 : (x != d) = false := by simp only [bne, hq]; rfl
    clear h
    go_enter Tryz.func99, Tryz.ntmps99
    go_wp2_with fail
    go_end0
    exact ⟨rfl, F, HH.out, Adv.refl _ _⟩
  | false =>
    have HP := Lib.hid (h.lift (m' := (st.m.prep 8 0).put (leI 8 x)) (fun Y r c hb => PrependInt64_calls b Y r st.m c x w hb hu))
    have hq2 : (x != d) = true := by simp only [bne, hq]; rfl
    have hs : (BSt.slot { st with m := (st.m.prep 8 0).put (leI 8 x) } i = none) ∨ ∃ s, BSt.slot { st with m := (st.m.prep 8 0).put (leI 8 x) } i = some s := by
      cases BSt.slot { st with m := (st.m.prep 8 0).put (leI 8 x) } i with
      | none => exact .inl rfl
      | some s => exact .inr ⟨s, rfl⟩
    show Calls _ _ _ _ (BRes w b F (unitRes (BSt.slot { st with m := (st.m.prep 8 0).put (leI 8 x) } i)))
    clear h
    rcases hs with hs | ⟨s, hs⟩
    all_goals
      rw [hs]
      have HS := Lib.hid hs
      clear hs
      go_enter Tryz.func99, Tryz.ntmps99
      go_wp2_with fail
      refine HP.out.mono ?_
      rintro e w1 ⟨rfl, F1, hb1, ha1⟩
      have HC := Lib.hid (Slot_calls b F1 _ i w1 hb1)
      rw [HS.out] at HC
      have HA := Lib.hid ha1
      clear hb1 ha1
      go_wp2_with fail
    · refine HC.out.mono ?_
      rintro e w2 ⟨⟨u, v, rfl⟩, hf⟩
      exact ⟨rfl, HA.out.falls ⟨⟨u, v, rfl⟩, hf⟩⟩
    · refine HC.out.mono ?_
      rintro e w2 ⟨rfl, F2, hb2, ha2⟩
      have HB2 := Lib.hid hb2
      have HA2 := Lib.hid ha2
      clear hb2 ha2
      go_wp2_with fail
      go_end0
      exact ⟨rfl, F2, HB2.out, HA.out.trans HA2.out⟩

theorem PrependFloat32Slot_calls (b : Nat) (F : List Nat) (st : BSt) (i : Int) (x d : Nat) (q : Bool) (hq : (Op.floatEq .f32 x d) = q) (w : World) (h : BRep w b F st) (hu : st.m.bytes.length ≤ 1900000) :
    Calls Tryz.prog 100 #[.pointer (some ⟨b, 0, none⟩), .int .i64 i, .float .f32 x, .float .f32 d] w (BRes w b F (unitRes (st.prepSlot 4 (leI 4 x) i q))) := by
  cases q with
  | true =>
    have HH := Lib.hid h
    have hq1 : (FloatKind.f32.format.order x d == some .eq) = true := hq
    have hq2 : (FloatKind.f32.format.order x d != some .eq) = false := by simp only [bne, hq1]; rfl
    clear h hq
    go_enter Tryz.func100, Tryz.ntmps100
    go_wp2_with fail
    go_end0
    exact ⟨rfl, F, HH.out, Adv.refl _ _⟩
  | false =>
    have HP := Lib.hid (h.lift (m' := (st.m.prep 4 0).put (leI 4 x)) (fun Y r c hb => PrependFloat32_calls b Y r st.m c x w hb hu))
    have hq1 : (FloatKind.f32.format.order x d == some .eq) = false := hq
    have hq2 : (FloatKind.f32.format.order x d != some .eq) = true := by simp only [bne, hq1]; rfl
    have hs : (BSt.slot { st with m := (st.m.prep 4 0).put (leI 4 x) } i = none) ∨ ∃ s, BSt.slot { st with m := (st.m.prep 4 0).put (leI 4 x) } i = some s := by
      cases BSt.slot { st with m := (st.m.prep 4 0).put (leI 4 x) } i with
      | none => exact .inl rfl
      | some s => exact .inr ⟨s, rfl⟩
    show Calls _ _ _ _ (BRes w b F (unitRes (BSt.slot { st with m := (st.m.prep 4 0).put (leI 4 x) } i)))
    clear h hq
    rcases hs with hs | ⟨s, hs⟩
    all_goals
      rw [hs]
      have HS := Lib.hid hs
      clear hs
      go_enter Tryz.func100, Tryz.ntmps100
      go_wp2_with fail
      refine HP.out.mono ?_
      rintro e w1 ⟨rfl, F1, hb1, ha1⟩
      have HC := Lib.hid (Slot_calls b F1 _ i w1 hb1)
      rw [HS.out] at HC
      have HA := Lib.hid ha1
      clear hb1 ha1
      go_wp2_with fail
    · refine HC.out.mono ?_
      rintro e w2 ⟨⟨u, v, rfl⟩, hf⟩
      exact ⟨rfl, HA.out.falls ⟨⟨u, v, rfl⟩, hf⟩⟩
    · refine HC.out.mono ?_
      rintro e w2 ⟨rfl, F2, hb2, ha2⟩
      have HB2 := Lib.hid hb2
      have HA2 := Lib.hid ha2
      clear hb2 ha2
      go_wp2_with fail
      go_end0
      exact ⟨rfl, F2, HB2.out, HA.out.trans HA2.out⟩

theorem PrependFloat64Slot_calls (b : Nat) (F : List Nat) (st : BSt) (i : Int) (x d : Nat) (q : Bool) (hq : (Op.floatEq .f64 x d) = q) (w : World) (h : BRep w b F st) (hu : st.m.bytes.length ≤ 1900000) :
    Calls Tryz.prog 101 #[.pointer (some ⟨b, 0, none⟩), .int .i64 i, .float .f64 x, .float .f64 d] w (BRes w b F (unitRes (st.prepSlot 8 (leI 8 x) i q))) := by
  cases q with
  | true =>
    have HH := Lib.hid h
    have hq1 : (FloatKind.f64.format.order x d == some .eq) = true := hq
    have hq2 : (FloatKind.f64.format.order x d != some .eq) = false := by simp only [bne, hq1]; rfl
    clear h hq
    go_enter Tryz.func101, Tryz.ntmps101
    go_wp2_with fail
    go_end0
    exact ⟨rfl, F, HH.out, Adv.refl _ _⟩
  | false =>
    have HP := Lib.hid (h.lift (m' := (st.m.prep 8 0).put (leI 8 x)) (fun Y r c hb => PrependFloat64_calls b Y r st.m c x w hb hu))
    have hq1 : (FloatKind.f64.format.order x d == some .eq) = false := hq
    have hq2 : (FloatKind.f64.format.order x d != some .eq) = true := by simp only [bne, hq1]; rfl
    have hs : (BSt.slot { st with m := (st.m.prep 8 0).put (leI 8 x) } i = none) ∨ ∃ s, BSt.slot { st with m := (st.m.prep 8 0).put (leI 8 x) } i = some s := by
      cases BSt.slot { st with m := (st.m.prep 8 0).put (leI 8 x) } i with
      | none => exact .inl rfl
      | some s => exact .inr ⟨s, rfl⟩
    show Calls _ _ _ _ (BRes w b F (unitRes (BSt.slot { st with m := (st.m.prep 8 0).put (leI 8 x) } i)))
    clear h hq
    rcases hs with hs | ⟨s, hs⟩
    all_goals
      rw [hs]
      have HS := Lib.hid hs
      clear hs
      go_enter Tryz.func101, Tryz.ntmps101
      go_wp2_with fail
      refine HP.out.mono ?_
      rintro e w1 ⟨rfl, F1, hb1, ha1⟩
      have HC := Lib.hid (Slot_calls b F1 _ i w1 hb1)
      rw [HS.out] at HC
      have HA := Lib.hid ha1
      clear hb1 ha1
      go_wp2_with fail
    · refine HC.out.mono ?_
      rintro e w2 ⟨⟨u, v, rfl⟩, hf⟩
      exact ⟨rfl, HA.out.falls ⟨⟨u, v, rfl⟩, hf⟩⟩
    · refine HC.out.mono ?_
      rintro e w2 ⟨rfl, F2, hb2, ha2⟩
      have HB2 := Lib.hid hb2
      have HA2 := Lib.hid ha2
      clear hb2 ha2
      go_wp2_with fail
      go_end0
      exact ⟨rfl, F2, HB2.out, HA.out.trans HA2.out⟩
end Go.Proofs.YtfplgggepoaajaaGreat
