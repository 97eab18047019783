/- laws.toScript, laws.buildAwake, laws.buildRun. -/
import Derived.Test.YtfplgggepoaajaaGreatScript
namespace Go.Proofs.YtfplgggepoaajaaGreat
open Go.RowKit
set_option linter.unusedVariables false
set_option linter.unusedSimpArgs false

theorem infoBStep3 : (Tryz.prog.info? 57).map (fun i => (i.zero, i.size, i.bytes)) = some (some (.agg #[.int .u8 0, .int .u8 0, .int .i64 0, .int .u64 0, .int .u64 0, .int .u32 0, .int .i64 0, .int .i64 0, .int .i64 0, .int .i64 0, .string ⟨#[]⟩]), 11, 88) := by kernel_rfl
theorem newCellsL (wr : World) (t : TypeId) (xs : List Value) (n : Nat) (hn : wr.heap.size = n) : ∀ j u, xs[j]? = some u → (wr.alloc (.cells xs.toArray t)).cell? ((⟨n, 0, none⟩ : Addr).add j) = some u := by
  intro j u hu
  subst hn
  have hadd : (⟨wr.heap.size, 0, none⟩ : Addr).add j = ⟨wr.heap.size, j, none⟩ := by unfold Addr.add; split <;> simp_all
  rw [hadd, cell_of (heap_alloc_new wr _)]
  simpa using hu
theorem bsC_one (s : BS) : ∀ u ∈ bsC s, u.oneCell' = true := by
  intro u hu
  simp only [bsC, List.mem_cons, List.not_mem_nil, or_false] at hu
  rcases hu with rfl | rfl | rfl | rfl | rfl | rfl | rfl | rfl | rfl | rfl | rfl <;> rfl
set_option maxRecDepth 20000 in
set_option maxHeartbeats 6000000 in
theorem toScript_calls (v : Value) (steps : List BS) (w : World) (hown : w.ownsRow 0 28 11 v steps.length (steps.flatMap bsC)) (hlen : steps.length ≤ 1000) :
    Calls Tryz.prog 22 #[v] w fun e w' => ∃ r, e = .returned r ∧ w'.ownsRow w.heap.size 57 11 r steps.length (steps.flatMap bsC) ∧ Fr0 w w' := by
  obtain ⟨i0, hi, hz0, hz1, hz2⟩ := info_parts infoBStep3
  have hvs : ∃ ao cap, v = .slice ao steps.length cap := by
    rcases hown.2 with ⟨rfl, h⟩ | ⟨g, cap, _, rfl, _⟩
    · exact ⟨none, 0, by rw [h]⟩
    · exact ⟨_, cap, rfl⟩
  obtain ⟨ao, cap, rfl⟩ := hvs
  have HROW := Lib.hid hown
  clear hown
  go_enter Tryz.func22, Tryz.ntmps22
  go_wp2_with fail
  go_loopw [3, 8] (fun av iv wr => ∃ i : Nat, i ≤ steps.length ∧ iv = .int .i64 i ∧ Fr0 w wr ∧ wr.ownsRow w.heap.size 57 11 av i ((steps.take i).flatMap bsC))
    (fun _ iv _ => steps.length - (intOf iv).toNat)
  case atStart => exact ⟨0, Nat.zero_le _, rfl, Fr.refl _ w, World.ownsRow_nil _ _ _ _⟩
  case round =>
    obtain ⟨i, hi1, rfl, hfr, hown⟩ := hrel
    have hsz := hfr.size
    by_cases hlt : i < steps.length
    · obtain ⟨g, cap', hv, hgl, hcs⟩ := own_cellsZ (f := bsC) bsC_length (Fr.ownZ HROW.out hfr (fun _ _ x => x)) hlt
      simp only [Value.slice.injEq] at hv
      obtain ⟨rfl, -, rfl⟩ := hv
      have htake : (steps.take (i + 1)).flatMap bsC = (steps.take i).flatMap bsC ++ bsC steps[i] := by
        rw [List.take_succ_eq_append_getElem hlt, List.flatMap_append]; simp
      have HTK := Lib.hid htake
      obtain ⟨s, hs⟩ : ∃ s, s = steps[i] := ⟨_, rfl⟩
      rw [← hs] at hcs
      have HST := Lib.hid hs
      obtain ⟨op, kind, slot, num, els, off0, ref, size, more, by_, text⟩ := s
      have c0 : wr.cell? ⟨g, i * 11, none⟩ = some (.int .u8 op) := hcs 0 (by omega)
      have c1 : wr.cell? ⟨g, i * 11 + 1, none⟩ = some (.int .u8 kind) := hcs 1 (by omega)
      have c2 : wr.cell? ⟨g, i * 11 + 2, none⟩ = some (.int .i64 slot) := hcs 2 (by omega)
      have c3 : wr.cell? ⟨g, i * 11 + 3, none⟩ = some (.int .u64 num) := hcs 3 (by omega)
      have c4 : wr.cell? ⟨g, i * 11 + 4, none⟩ = some (.int .u64 els) := hcs 4 (by omega)
      have c5 : wr.cell? ⟨g, i * 11 + 5, none⟩ = some (.int .u32 off0) := hcs 5 (by omega)
      have c6 : wr.cell? ⟨g, i * 11 + 6, none⟩ = some (.int .i64 ref) := hcs 6 (by omega)
      have c7 : wr.cell? ⟨g, i * 11 + 7, none⟩ = some (.int .i64 size) := hcs 7 (by omega)
      have c8 : wr.cell? ⟨g, i * 11 + 8, none⟩ = some (.int .i64 more) := hcs 8 (by omega)
      have c9 : wr.cell? ⟨g, i * 11 + 9, none⟩ = some (.int .i64 by_) := hcs 9 (by omega)
      have c10 : wr.cell? ⟨g, i * 11 + 10, none⟩ = some (.string (strOf text)) := hcs 10 (by omega)
      clear hs htake hcs hgl
      have hl1 : (steps.take i).length = i := by rw [List.length_take]; omega
      have HL1 := Lib.hid hl1
      have HFR := Lib.hid hfr
      clear hl1 hfr
      go_wp2_with (at_builtin; refine wpList_append_own _ rfl (.tmp 12) (.tmp 14) 58 rfl w.heap.size 57 i0 (.agg #[.int .u8 0, .int .u8 0, .int .i64 0, .int .u64 0, .int .u64 0, .int .u32 0, .int .i64 0, .int .i64 0, .int .i64 0, .int .i64 0, .string ⟨#[]⟩]) 11 88 Tryz.underlying58 hi hz0 hz1 hz2 rfl (by decide) _ _ _ rfl ((hown.alloc _).alloc _) ⟨wr.heap.size + 1, 0, none⟩ 1 1 (bsC ⟨op, kind, slot, num, els, off0, ref, size, more, by_, text⟩) rfl rfl (newCellsL _ _ _ _ (by simp)) (bsC_one _) (by unfold maxLen; omega) (by omega) (by simp; omega) ?_; intro v3 w3 hown3 hgrow3 hnil3)
      go_roundw
      case rel =>
        refine ⟨i + 1, by omega, by go_num, ?_, ?_⟩
        · exact (((HFR.out.alloc _).alloc _).trans2 (S := fun _ => False) (grown_fr hgrow3) (fun k hk e => by have := (hown.lt k e.symm).1; omega))
        · rw [HTK.out, ← HST.out]; exact hown3
      case measure => simp [intOf]; omega
    · obtain rfl : i = steps.length := by omega
      rw [List.take_length] at hown
      have HFR := Lib.hid hfr
      have HOWN := Lib.hid hown
      clear hfr hown
      go_wp2_with fail
      go_ret
      exact ⟨_, rfl, HOWN.out, HFR.out⟩
end Go.Proofs.YtfplgggepoaajaaGreat
