/- The Builder's EndObject, Finish, FinishWithFileIdentifier, FinishedBytes. -/
import Derived.Test.YtfplgggepoaajaaGreatWvt
namespace Go.Proofs.YtfplgggepoaajaaGreat
open Go.RowKit
set_option linter.unusedVariables false
set_option linter.unusedSimpArgs false

theorem EndObject_calls (b : Nat) (F : List Nat) (st : BSt) (w : World) (h : BRep w b F st) (hi : BInv st) (hv : st.nested = true → ∃ l0, st.vtab = some l0) (hu : st.m.bytes.length ≤ 1700000) :
    Calls Tryz.prog 49 #[.pointer (some ⟨b, 0, none⟩)] w (BRes w b F (numRes st.endObj)) := by
  have HN := Lib.hid (assertNested_calls b F st w h)
  cases hn : st.nested with
  | false =>
    have e : numRes st.endObj = none := by unfold BSt.endObj numRes; rw [hn]; rfl
    rw [e]
    rw [hn] at HN
    clear h hi hv hu hn
    go_enter Tryz.func49, Tryz.ntmps49
    go_wp2_with fail
    refine HN.out.mono ?_
    rintro e w' ⟨⟨u, v, rfl⟩, rfl⟩
    exact ⟨rfl, ⟨u, v, rfl⟩, Fr.refl _ _⟩
  | true =>
    have e : numRes st.endObj = some (.int .u32 st.vt1.bytes.length, { st.writeVt with nested := false }) := by unfold BSt.endObj numRes; rw [hn]; rfl
    rw [e]
    rw [hn] at HN
    obtain ⟨l0, hl0⟩ := hv hn
    have HW := Lib.hid (WriteVtable_calls b F st l0 w h hi hl0 hu)
    obtain ⟨o, ho⟩ : ∃ o, o = st.vt1.bytes.length := ⟨_, rfl⟩
    rw [← ho] at HW ⊢
    clear h hi hv hu hn hl0 e ho
    go_enter Tryz.func49, Tryz.ntmps49
    go_wp2_with fail
    refine HN.out.mono ?_
    rintro e w' ⟨rfl, rfl⟩
    go_wp2_with fail
    refine HW.out.mono ?_
    rintro e w1 ⟨rfl, F1, hb1, ha1⟩
    have c6 := hb1.cells.1
    have f6 := hb1.frozen 6
    have h6 := hb1.set6 false
    have HB := Lib.hid h6.1
    have HA := Lib.hid (ha1.trans h6.2)
    clear hb1 ha1 h6
    go_wp2_with fail
    go_ret
    exact ⟨rfl, F1, HB.out, HA.out⟩
end Go.Proofs.YtfplgggepoaajaaGreat
