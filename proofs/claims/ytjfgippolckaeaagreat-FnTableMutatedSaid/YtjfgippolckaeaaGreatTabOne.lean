/- laws.tableTo and laws.tableOne: steps turned to the thin package's, and the answer of one step. -/
import Derived.Test.YtjfgippolckaeaaGreatTabRun
import Derived.Laws.ResultCell
namespace Go.Proofs.YtjfgippolckaeaaGreat
open Go.RowKit
set_option linter.unusedVariables false
set_option linter.unusedSimpArgs false

/-- A slice of values of four cells each, wherever it lies. -/
def RowAt (w : World) (v : Value) (n : Nat) (xs : List Value) : Prop :=
  xs.length = n * 4 ∧ ∃ ao cap, v = .slice ao n cap ∧ (n = 0 ∨ ∃ g o, ao = some ⟨g, o, none⟩ ∧ g < w.heap.size ∧ ∀ j u, xs[j]? = some u → w.cell? ⟨g, o + j, none⟩ = some u)
theorem RowAt.fr {w w' : World} {v : Value} {n : Nat} {xs : List Value} (h : RowAt w v n xs) (hf : Fr0 w w') : RowAt w' v n xs := by
  obtain ⟨h1, ao, cap, e, h2⟩ := h
  refine ⟨h1, ao, cap, e, h2.imp id ?_⟩
  rintro ⟨g, o, e, hg, hc⟩
  exact ⟨g, o, e, Nat.lt_of_lt_of_le hg hf.size, fun j u hu => (Fr.cell hf (p := ⟨g, o + j, none⟩) hg (fun x => x)).trans (hc j u hu)⟩
theorem row_cells {w : World} {v : Value} {α : Type} {f : α → List Value} (hf : ∀ x, (f x).length = 4) {l : List α} (h : RowAt w v l.length (l.flatMap f)) {i : Nat} (hi : i < l.length) :
    ∃ g o cap, v = .slice (some ⟨g, o, none⟩) l.length cap ∧ g < w.heap.size ∧ ∀ j u, (f l[i])[j]? = some u → w.cell? ⟨g, o + (i * 4 + j), none⟩ = some u := by
  obtain ⟨_, ao, cap, e, hn | ⟨g, o, rfl, hg, hc⟩⟩ := h
  · omega
  · refine ⟨g, o, cap, e, hg, fun j u hu => hc _ _ ?_⟩
    have hj : j < 4 := by have := (List.getElem?_eq_some_iff.1 hu).1; rw [hf] at this; exact this
    rw [flat_get f hf l i j hi hj]; exact hu
theorem own_row {w : World} {base n : Nat} {e : TypeId} {v : Value} {xs : List Value} (h : w.ownsRow base e 4 v n xs) : RowAt w v n xs := by
  rcases h.2 with ⟨rfl, hn⟩ | ⟨g, cap, cur, e1, hb, hg, h1, h2, h3, h4⟩
  · exact ⟨h.1, none, 0, by rw [hn], .inl hn⟩
  refine ⟨h.1, _, cap, e1, .inr ⟨g, 0, rfl, lt_of_block hg, fun j u hu => ?_⟩⟩
  rw [cell_of hg, ← hu, ← h4, List.getElem?_take, if_pos (by have := (List.getElem?_eq_some_iff.1 hu).1; rw [h.1] at this; exact this)]
  simp

theorem infoStep3 : (Tryz.prog.info? 77).map (fun i => (i.zero, i.size, i.bytes)) = some (some (.agg #[.int .u8 0, .int .u8 0, .int .u32 0, .int .u64 0]), 4, 16) := by kernel_rfl
theorem stepCell (wr : World) (t : TypeId) (x0 x1 x2 x3 : Value) : ∀ j u, [x0, x1, x2, x3][j]? = some u → (wr.alloc (.cells #[x0, x1, x2, x3] t)).cell? ((⟨wr.heap.size, 0, none⟩ : Addr).add j) = some u := by
  intro j u hu
  have hadd : (⟨wr.heap.size, 0, none⟩ : Addr).add j = ⟨wr.heap.size, j, none⟩ := by unfold Addr.add; split <;> simp_all
  rw [hadd, cell_of (heap_alloc_new wr _)]
  simpa using hu

set_option maxHeartbeats 6000000 in
theorem tableTo_calls (v : Value) (steps : List Stp) (w : World) (hrow : RowAt w v steps.length (steps.flatMap stepC)) (hlen : steps.length ≤ 1000) :
    Calls Tryz.prog 15 #[v] w fun e w' => ∃ r, e = .returned r ∧ w'.ownsRow w.heap.size 77 4 r steps.length (steps.flatMap stepC) ∧ Fr0 w w' := by
  obtain ⟨i0, hi, hz0, hz1, hz2⟩ := info_parts infoStep3
  have hvs : ∃ ao cap, v = .slice ao steps.length cap := ⟨hrow.2.choose, hrow.2.choose_spec.choose, hrow.2.choose_spec.choose_spec.1⟩
  obtain ⟨ao, cap, rfl⟩ := hvs
  have HROW := Lib.hid hrow
  clear hrow
  go_enter Tryz.func15, Tryz.ntmps15
  go_wp2_with fail
  go_loopw [3, 8] (fun av iv wr => ∃ i : Nat, i ≤ steps.length ∧ iv = .int .i64 i ∧ Fr0 w wr ∧ wr.ownsRow w.heap.size 77 4 av i ((steps.take i).flatMap stepC))
    (fun _ iv _ => steps.length - (intOf iv).toNat)
  case atStart => exact ⟨0, Nat.zero_le _, rfl, Fr.refl _ w, World.ownsRow_nil _ _ _ _⟩
  case round =>
    obtain ⟨i, hi1, rfl, hfr, hown⟩ := hrel
    have hsz := hfr.size
    by_cases hlt : i < steps.length
    · obtain ⟨g, o, cap', hv, hgl, hcs⟩ := row_cells (f := stepC) (fun _ => rfl) (HROW.out.fr hfr) hlt
      injection hv with hv1 hv2 hv3
      subst hv1 hv3
      clear hv2
      have htake : (steps.take (i + 1)).flatMap stepC = (steps.take i).flatMap stepC ++ stepC steps[i] := by
        rw [List.take_succ_eq_append_getElem hlt, List.flatMap_append]; simp
      have HTK := Lib.hid htake
      obtain ⟨st, hst⟩ : ∃ st, st = steps[i] := ⟨_, rfl⟩
      rw [← hst] at hcs
      have HST := Lib.hid hst
      clear hst htake
      have s0 : wr.cell? ⟨g, o + i * 4, none⟩ = some (.int .u8 st.op) := hcs 0 _ rfl
      have s1 : wr.cell? ⟨g, o + i * 4 + 1, none⟩ = some (.int .u8 st.k) := hcs 1 _ rfl
      have s2 : wr.cell? ⟨g, o + i * 4 + 2, none⟩ = some (.int .u32 st.off) := hcs 2 _ rfl
      have s3 : wr.cell? ⟨g, o + i * 4 + 3, none⟩ = some (.int .u64 st.num) := hcs 3 _ rfl
      clear hcs hgl
      have hl1 : (steps.take i).length = i := by rw [List.length_take]; omega
      have HL1 := Lib.hid hl1
      have HFR := Lib.hid hfr
      clear hl1 hfr
      go_wp2_with (at_builtin; refine wpList_append_own _ rfl (.tmp 12) (.tmp 14) 47 rfl w.heap.size 77 i0 (.agg #[.int .u8 0, .int .u8 0, .int .u32 0, .int .u64 0]) 4 16 Tryz.underlying47 hi hz0 hz1 hz2 rfl (by decide) _ _ _ rfl ((hown.alloc _).alloc _) ⟨wr.heap.size + 1, 0, none⟩ 1 1 (stepC st) rfl rfl (by have h := stepCell (wr.alloc (.cells (stepC st).toArray 35)) 77; simp only [size_alloc] at h; exact h _ _ _ _) (by intro u hu; simp [stepC] at hu; rcases hu with rfl | rfl | rfl | rfl <;> rfl) (by unfold maxLen; omega) (by omega) (by simp; omega) ?_; intro v3 w3 hown3 hgrow3 hnil3)
      go_roundw
      case rel =>
        refine ⟨i + 1, by omega, by go_num, ?_, ?_⟩
        · exact (((HFR.out.alloc _).alloc _).trans2 (S := fun _ => False) (grown_fr hgrow3) (fun k hk e => by have := (hown.lt k e.symm).1; omega))
        · rw [HTK.out, ← HST.out]; exact hown3
      case measure => simp [intOf]; omega
    · obtain rfl : i = steps.length := by omega
      rw [List.take_length] at hown
      have HFR := Lib.hid hfr
      have HOWN := Lib.hid hown
      clear hfr hown
      go_wp2_with fail
      go_ret
      exact ⟨_, rfl, HOWN.out, HFR.out⟩

theorem results_row_tmp {P : Program} {fn : Func} {p u : Tmp} {ty : TypeId} (h : fn.results = #[.cell p ty, .tmp u]) (tmps : Array Value) (w : World) (g : Nat) (t : TypeId) (cs : Array Value) (fr : Nat × Nat) (d : TypeDesc)
    (hp : tmps.getD p undef = .pointer (some ⟨g, 0, none⟩)) (hg : w.heap[g]? = some (.cells cs t fr))
    (hu : P.underlying ty = some d) (hd : (match d with | .struct _ | .array _ _ => true | _ => false) = true) (hi : (P.info? ty).map (·.size) = some cs.size) :
    (results fn tmps).run P w = .ok (.tuple #[.agg cs, tmps.getD u undef]) w := by
  rw [results_cell_tmp h, hp]
  simp [asAddr, run_loadVar_row w g t ty cs fr d hg hu hd hi, Result.andThen]
theorem infoAnsS : (Tryz.prog.info? 31).map (·.size) = some 4 := by kernel_rfl
set_option maxHeartbeats 6000000 in
theorem tableOne_calls (s : ByteArray) (pos : Nat) (st : Stp) (w : World) (hs : s.size ≤ 1000000000) (hpos : pos < 4294967296) (hn : st.num < 2 ^ 64) :
    Calls Tryz.prog 10 #[.string s, .int .u32 pos, .agg (stepC st).toArray] w fun e w' =>
      e = .returned (.tuple #[.agg (ansC (mAns s.data.toList pos st.op st.k st.off st.num).1).toArray, .string (strOf (mAns s.data.toList pos st.op st.k st.off st.num).2)]) ∧ Fr0 w w' := by
  have HTO := Lib.hid (fun v w h => tableTo_calls v [st] w h (by simp))
  have HRUN := Lib.hid (fun v w h => TableRun_calls s pos v [st] w hs hpos h (by simp) (by intro x hx; simp at hx; subst hx; exact hn))
  have hrow : ∀ (w2 : World) (n : Nat), w2.heap.size = n → RowAt (w2.alloc (.cells (stepC st).toArray 35)) (.slice (some ⟨n, 0, none⟩) 1 1) 1 (stepC st) := fun w2 n hn => hn ▸
    ⟨rfl, _, 1, rfl, .inr ⟨w2.heap.size, 0, rfl, by simp, fun j u hu => by rw [cell_of (heap_alloc_new w2 _)]; simpa using hu⟩⟩
  have HROW := Lib.hid hrow
  have e1 : [st].flatMap stepC = stepC st := by simp
  rw [e1] at HTO HRUN
  have e2 : (mRun pos s.data.toList [st]).1.flatMap ansC = ansC (mAns s.data.toList pos st.op st.k st.off st.num).1 := by simp [mRun, stepSt]
  have e3 : (mRun pos s.data.toList [st]).2 = (mAns s.data.toList pos st.op st.k st.off st.num).2 := rfl
  have e4 : (mRun pos s.data.toList [st]).1.length = 1 := rfl
  rw [e2, e3, e4] at HRUN
  clear e1 e2 e3 e4 hrow hn
  generalize mAns s.data.toList pos st.op st.k st.off st.num = an at *
  obtain ⟨a, m⟩ := an
  go_enter Tryz.func10, Tryz.ntmps10
  unfold stepC at *
  go_wp2_with fail
  refine (HTO.out _ _ (HROW.out _ _ (by simp))).mono ?_
  rintro e w1 ⟨r, rfl, hown, hf⟩
  have HF := Lib.hid hf
  have HRN := Lib.hid (HRUN.out r w1 ⟨hown.1, hown.2.imp id (fun ⟨g, cap, cur, e1, e2, e3⟩ => ⟨g, cap, cur, e1, Nat.zero_le _, e3⟩)⟩)
  have hsz := hf.size
  have hb0 := (hf.block (w.heap.size + 1) (by simp) (fun x => x))
  have HB0 := Lib.hid hb0
  clear hown hf hb0 HTO HROW HRUN
  go_wp2_with fail
  refine HRN.out.mono ?_
  rintro e w2 ⟨r2, rfl, hown, hf⟩
  have hb := (hf.block (w.heap.size + 1) (by simp at hsz; omega) (fun x => x)).trans HB0.out
  simp only [heap_alloc_get, size_alloc] at hb
  rw [if_neg (by omega), if_pos trivial] at hb
  have c0 : w2.cell? ⟨w.heap.size + 1, 0, none⟩ = some (.int .u64 0) := by rw [cell_of hb]; rfl
  have c1 : w2.cell? ⟨w.heap.size + 1, 1, none⟩ = some (.string ⟨#[]⟩) := by rw [cell_of hb]; rfl
  have c2 : w2.cell? ⟨w.heap.size + 1, 2, none⟩ = some (.bool false) := by rw [cell_of hb]; rfl
  have c3 : w2.cell? ⟨w.heap.size + 1, 3, none⟩ = some (.bool false) := by rw [cell_of hb]; rfl
  have f0 := frozen_of hb 0
  have f1 := frozen_of hb 1
  have f2 := frozen_of hb 2
  have f3 := frozen_of hb 3
  rcases hown.2 with ⟨_, h⟩ | ⟨g, cap, cur, rfl, hbg, hg, h1, h2, h3, h4⟩
  · omega
  have hcell : ∀ j u, (ansC a)[j]? = some u → w2.cell? ⟨g, j, none⟩ = some u := fun j u hu => by
    rw [cell_of hg, ← hu]
    have hj : j < 4 := (List.getElem?_eq_some_iff.1 hu).1
    have := congrArg (fun l : List Value => l[j]?) h4
    simp only [List.getElem?_take] at this
    rw [if_pos (by omega)] at this
    rw [← this]; simp
  have g0 : w2.cell? ⟨g, 0, none⟩ = some (.int .u64 a.num) := hcell 0 _ rfl
  have g1 : w2.cell? ⟨g, 1, none⟩ = some (.string (strOf a.text)) := hcell 1 _ rfl
  have g2 : w2.cell? ⟨g, 2, none⟩ = some (.bool a.done) := hcell 2 _ rfl
  have g3 : w2.cell? ⟨g, 3, none⟩ = some (.bool a.pan) := hcell 3 _ rfl
  have HBB := Lib.hid hb
  have HFF := Lib.hid (((((Fr.refl _ w).alloc _).alloc _).alloc _).trans (HF.out.trans hf))
  clear hown hb hcell hf hg h4 hbg h1 h2 h3
  go_wp2_with fail
  exact bodyPost_ret (results_row_tmp (P := Tryz.prog) rfl _ _ (w.heap.size + 1) 31 _ (0, 0) _ rfl (heap_setCell_same (heap_setCell_same (heap_setCell_same (heap_setCell_same HBB.out 0 _) 1 _) 2 _) 3 _) Tryz.underlying31 rfl infoAnsS) rfl
    ⟨rfl, (((HFF.out.setCell (fun h => absurd h (by simp)) _).setCell (fun h => absurd h (by simp)) _).setCell (fun h => absurd h (by simp)) _).setCell (fun h => absurd h (by simp)) _⟩

end Go.Proofs.YtjfgippolckaeaaGreat
