/- What WriteVtable meets where no object was ever begun. -/
import Derived.Test.YtfplgggepoaajaaGreatEnd
namespace Go.Proofs.YtfplgggepoaajaaGreat
open Go.RowKit
set_option linter.unusedVariables false
set_option linter.unusedSimpArgs false

theorem setCell_same_val {w : World} {b i : Nat} {c : Array Value} {t : TypeId} {fr : Nat × Nat} {v : Value} (hb : w.heap[b]? = some (.cells c t fr)) (hc : c.setIfInBounds i v = c) : w.setCell ⟨b, i, none⟩ v = w := by
  have h2 := heap_setCell_same hb i v
  have hh : (w.setCell ⟨b, i, none⟩ v).heap = w.heap := by
    apply Array.ext_getElem?
    intro j
    by_cases hj : j = b
    · subst hj
      rw [hb]
      refine h2.trans ?_
      rw [hc]
    · exact heap_setCell_other _ _ _ _ hj
  have : w.setCell ⟨b, i, none⟩ v = { w with heap := (w.setCell ⟨b, i, none⟩ v).heap } := rfl
  rw [this, hh]
theorem BRep.vtabNone {w : World} {b : Nat} {F : List Nat} {st : BSt} (h : BRep w b F st) (hv : st.vtab = none) : w.cell? ⟨b, 2, none⟩ = some (.slice none 0 0) ∧ w.setCell ⟨b, 2, none⟩ (.slice none 0 0) = w := by
  obtain ⟨Y, V, G, M, r, c, rfl, hb, ho⟩ := h
  have hvt := ho.vt
  rw [hv] at hvt
  have h2 : r.v2 = .slice none 0 0 := hvt.1
  refine ⟨by rw [cell_of hb.hb, ← h2]; rfl, setCell_same_val hb.hb ?_⟩
  rw [← h2]; rfl
theorem run_slice_nil (w : World) : (Instr.slice 79 (.slice none 0 0) none (some (.int .i64 0)) none).run Tryz.prog w = .ok (.slice none 0 0) w := by
  kernel_rfl
set_option maxHeartbeats 2000000 in
theorem vtableEqual_nil (Y off len cap o : Nat) (d : List UInt8) (w : World) (ho : o ≤ 4000000) (hd : d.length = len) (hc : len ≤ cap) :
    Calls Tryz.prog 121 #[.slice none 0 0, .int .u32 o, .slice (some ⟨Y, off, none⟩) len cap] w fun e w' => e = .returned (.bool (vtSame o [] d)) ∧ w = w' := by
  by_cases he : len = 0
  · subst he
    have hv : vtSame o [] d = true := by rw [List.eq_nil_of_length_eq_zero hd]; rfl
    rw [hv]
    clear hv hd
    go_enter Tryz.func121, Tryz.ntmps121
    go_wp2_with fail
    go_loop [7] (fun iv => iv = .int .i64 0) (fun iv => 0)
    case atStart => exact rfl
    case round =>
      obtain rfl := hrel
      go_wp2_with fail
      go_ret
      exact ⟨rfl, rfl⟩
  · have hv : vtSame o [] d = false := by
      cases d with
      | nil => exact absurd hd.symm he
      | cons a l => rfl
    rw [hv]
    have hq1 : ((0 : Int) == (len : Int)) = false := by rw [beq_eq_false_iff_ne]; omega
    have hq2 : ((0 : Int) != (len : Int)) = true := by simp only [bne, hq1]; rfl
    clear hv hd
    go_enter Tryz.func121, Tryz.ntmps121
    go_wp2_with fail
    go_ret
    exact ⟨rfl, rfl⟩
end Go.Proofs.YtfplgggepoaajaaGreat
