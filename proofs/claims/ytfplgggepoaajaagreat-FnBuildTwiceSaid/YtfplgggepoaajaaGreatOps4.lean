/- The Builder's EndVector. -/
import Derived.Test.YtfplgggepoaajaaGreatPlaceDies
namespace Go.Proofs.YtfplgggepoaajaaGreat
open Go.RowKit
set_option linter.unusedVariables false
set_option linter.unusedSimpArgs false

theorem BRep.liftF {f : FuncId} {args : Array Value} {w : World} {b : Nat} {F : List Nat} {st : BSt} (h : BRep w b F st)
    (hc : ∀ Y r c, BBm w b Y r st.m c → Calls Tryz.prog f args w (Falls2 (fun k => k = b ∨ k = Y) w)) : Calls Tryz.prog f args w (Falls2 (fun k => k ∈ F) w) := by
  obtain ⟨Y, V, G, M, r, c, rfl, hb, ho⟩ := h
  refine (hc Y r c hb).mono ?_
  rintro e w' ⟨h1, h2⟩
  exact ⟨h1, h2.mono (fun i _ hi => by rcases hi with rfl | rfl <;> simp)⟩
/-- What Place.. gives, if there is room. -/
theorem BRep.liftP {f : FuncId} {args : Array Value} {w : World} {b : Nat} {F : List Nat} {st : BSt} {z : Nat} {xs : List UInt8} (h : BRep w b F st) (hx : xs.length = z)
    (hc : ∀ Y r c, BBm w b Y r st.m c → Calls Tryz.prog f args w fun e w' => e = .returned (.tuple #[]) ∧ (∃ c', BB w' b Y r (st.m.room - z) st.m.least (xs ++ st.m.bytes) c') ∧ Fr (fun k => k = b ∨ k = Y) w w') :
    Calls Tryz.prog f args w (BRes w b F (some (.tuple #[], { st with m := st.m.put xs }))) := by
  refine h.lift fun Y r c hb => (hc Y r c hb).mono ?_
  rintro e w' ⟨rfl, h1, h2⟩
  refine ⟨rfl, BBx.here ?_ h2⟩
  show ∃ c', BB w' b Y r (st.m.room - xs.length) _ _ c'
  rw [hx]; exact h1
theorem PlaceUOffsetT_b (b : Nat) (F : List Nat) (st : BSt) (n : Nat) (w : World) (h : BRep w b F st) :
    Calls Tryz.prog 102 #[.pointer (some ⟨b, 0, none⟩), .int .u32 n] w (BRes w b F (if st.m.room < 4 then none else some (.tuple #[], { st with m := st.m.put (leB 4 n) }))) := by
  by_cases hr : st.m.room < 4
  · rw [if_pos hr]
    exact h.liftF fun Y r c hb => PlaceUOffsetT_dies b Y r _ _ _ c n w hb hr
  · rw [if_neg hr]
    refine h.liftP (z := 4) (leB_length 4 n) fun Y r c hb => ?_
    rw [← leI_nat]
    exact PlaceUOffsetT_ok b Y r _ _ _ c n w hb (by omega)
def BSt.endVec (st : BSt) (n : Nat) : Option (Nat × BSt) :=
  if st.nested then if st.m.room < 4 then none else some (4 + st.m.bytes.length, { st with m := st.m.put (leB 4 n), nested := false }) else none
theorem EndVector_calls (b : Nat) (F : List Nat) (st : BSt) (n : Nat) (w : World) (h : BRep w b F st) (hn : n ≤ 4000000) :
    Calls Tryz.prog 59 #[.pointer (some ⟨b, 0, none⟩), .int .i64 n] w (BRes w b F (numRes (st.endVec n))) := by
  have HA := Lib.hid (assertNested_calls b F st w h)
  have hmod : (n : Int) % 4294967296 = (n : Int) := by omega
  cases hne : st.nested with
  | false =>
    have e : numRes (st.endVec n) = none := by unfold BSt.endVec numRes; rw [hne]; rfl
    rw [e]
    rw [hne] at HA
    clear h
    go_enter Tryz.func59, Tryz.ntmps59
    go_wp2_with fail
    refine HA.out.mono ?_
    rintro e w' ⟨⟨u, v, rfl⟩, rfl⟩
    exact ⟨rfl, ⟨u, v, rfl⟩, Fr.refl _ _⟩
  | true =>
    rw [hne] at HA
    have HP := Lib.hid (PlaceUOffsetT_b b F st n w h)
    by_cases hr : st.m.room < 4
    · have e : numRes (st.endVec n) = none := by unfold BSt.endVec numRes; rw [hne, if_pos rfl, if_pos hr]; rfl
      rw [e]
      rw [if_pos hr] at HP
      clear h
      go_enter Tryz.func59, Tryz.ntmps59
      go_wp2_with fail
      refine HA.out.mono ?_
      rintro e w' ⟨rfl, rfl⟩
      go_wp2_with fail
      refine HP.out.mono ?_
      rintro e w1 ⟨⟨u, v, rfl⟩, hf⟩
      exact ⟨rfl, ⟨u, v, rfl⟩, hf⟩
    · have e : numRes (st.endVec n) = some (.int .u32 (4 + st.m.bytes.length : Nat), { st with m := st.m.put (leB 4 n), nested := false }) := by unfold BSt.endVec numRes; rw [hne, if_pos rfl, if_neg hr]; rfl
      rw [e]
      rw [if_neg hr] at HP
      have hl : (st.m.put (leB 4 n)).bytes.length = 4 + st.m.bytes.length := by show (leB 4 n ++ st.m.bytes).length = _; rw [List.length_append, leB_length]
      have HL := Lib.hid hl
      clear h hl
      go_enter Tryz.func59, Tryz.ntmps59
      go_wp2_with fail
      refine HA.out.mono ?_
      rintro e w' ⟨rfl, rfl⟩
      go_wp2_with fail
      refine HP.out.mono ?_
      rintro e w1 ⟨rfl, F1, hb1, ha1⟩
      obtain ⟨c6, _⟩ := hb1.cells
      have f6 := hb1.frozen 6
      have HB := Lib.hid (hb1.set6 false)
      have HAD := Lib.hid ha1
      clear hb1 ha1
      go_wp2_with fail
      refine (Offset_b b F1 _ _ HB.out.1).mono ?_
      rintro e w3 ⟨rfl, n3, rfl⟩
      rw [HL.out]
      go_wp2_with fail
      go_ret
      exact ⟨rfl, F1, HB.out.1.drewN _, (HAD.out.trans HB.out.2).drewN _⟩
end Go.Proofs.YtfplgggepoaajaaGreat
