/- The Builder's StartObject. -/
import Derived.Test.YtfplgggepoaajaaGreatSlots2
namespace Go.Proofs.YtfplgggepoaajaaGreat
open Go.RowKit
set_option linter.unusedVariables false
set_option linter.unusedSimpArgs false

theorem sizeU32o : (Tryz.prog.info? 77).map (·.size) = some 1 := by kernel_rfl
theorem BOther.kept {w w' : World} {b Y V G M : Nat} {r : BRest} {st : BSt} {c : Array Value} {S : Nat → Prop} (hb : BBm w b Y r st.m c) (ho : BOther w b V G M r st) (hf : Fr S w w') (hS : ∀ k, S k → k = b ∨ k = Y) : BOther w' b V G M r st := by
  have hvt := ho.vt
  have hsh := ho.sh
  exact ho.fr hf (fun hv => by
    cases hc : st.vtab with
    | none => exact absurd hc hv
    | some l =>
      rw [hc] at hvt
      intro hs
      rcases hS _ hs with e | e
      · exact OffRow.ne_of hvt hb.hb (by decide) e
      · exact OffRow.ne_of hvt hb.hy (by decide) e) (fun hs => by
      rcases hS _ hs with e | e
      · exact ho.vs.ne_of hb.hb (by decide) e
      · exact ho.vs.ne_of hb.hy (by decide) e) (fun hs => by
    cases hc : st.shared with
    | none => exact absurd hc hs
    | some D =>
      rw [hc] at hsh
      intro hs
      rcases hS _ hs with e | e
      · exact ShRep.ne_of hsh hb.hb e
      · exact ShRep.ne_of hsh hb.hy e)
theorem BRep.set3 {w : World} {b : Nat} {F : List Nat} {st : BSt} (h : BRep w b F st) (x : Nat) : BRep (w.setCell ⟨b, 3, none⟩ (.int .u32 x)) b F { st with oend := x } ∧ Adv w (w.setCell ⟨b, 3, none⟩ (.int .u32 x)) F F := by
  have hm := h.mem
  obtain ⟨Y, V, G, M, r, c, rfl, hb, ho⟩ := h
  have hf : Fr (fun k => k = b) w (w.setCell ⟨b, 3, none⟩ (.int .u32 x)) := (Fr.refl (fun k => k = b) w).setCell (fun _ => rfl) _
  have ho2 := ho.kept hb hf (fun k h => .inl h)
  refine ⟨⟨Y, V, G, M, { r with v3 := .int .u32 x }, c, rfl, ⟨heap_setCell_same hb.hb 3 (.int .u32 x), ?_, hb.fit, hb.eq, hb.lim, hb.ne, hb.cap, hb.one, hb.zero⟩, ⟨ho2.vt, rfl, ho2.vs, ho2.ne, ho2.fi, ho2.sh, ho2.vg⟩⟩, hf.mono (fun i _ hi => by subst hi; exact hm), fun k hk => .inl hk⟩
  rw [heap_setCell_other _ _ _ _ (show Y ≠ b from fun e => hb.ne e.symm)]; exact hb.hy
/-- The vtable is another row: a new one, or its own block, whose cells have turned. -/
theorem BRep.vtother {w w' : World} {b Y V V' G M : Nat} {r : BRest} {st : BSt} {c : Array Value} {v : Value} {l : List Nat} (hb : BBm w b Y r st.m c) (ho : BOther w b V G M r st)
    (hf : Fr (fun k => k = b ∨ k = V') w w') (hV' : w.heap.size ≤ V' ∨ (V' = V ∧ st.vtab ≠ none)) (hbb : w'.heap[b]? = some (.cells ((bCells Y (st.m.room + st.m.bytes.length) c.size st.m.least st.m.room r).setIfInBounds 2 v) 82)) (hrow : OffRow w' V' v l) :
    BRep w' b [b, Y, V', G, M] { st with vtab := some l } ∧ Adv w w' [b, Y, V, G, M] [b, Y, V', G, M] := by
  have hbl := lt_of_block hb.hb
  have hYl := lt_of_block hb.hy
  obtain ⟨cg, _, hG, _⟩ := ho.vs
  have hGl := lt_of_block hG
  have hvt := ho.vt
  have hsh := ho.sh
  have hne : ∀ k, k < w.heap.size → k ≠ b → (st.vtab ≠ none → k ≠ V) → ¬ (k = b ∨ k = V') := by
    intro k hk h1 h2 h3
    rcases h3 with h3 | h3
    · exact h1 h3
    · rcases hV' with h | ⟨h, hn⟩
      · omega
      · exact h2 hn (h3.trans h)
  have hVne : ∀ k cc tt, w.heap[k]? = some (.cells cc tt) → tt ≠ 77 → st.vtab ≠ none → k ≠ V := by
    intro k cc tt hk ht hv
    cases hc : st.vtab with
    | none => exact absurd hc hv
    | some l0 => rw [hc] at hvt; exact fun e => OffRow.ne_of hvt hk ht e.symm
  have hYk : w'.heap[Y]? = w.heap[Y]? := hf.block Y hYl (hne Y hYl (fun e => hb.ne e.symm) (hVne Y _ _ hb.hy (by decide)))
  have hGk : ¬ (G = b ∨ G = V') := hne G hGl (ho.vs.ne_of hb.hb (by decide)) (fun _ e => ho.vg e.symm)
  have hMk : st.shared ≠ none → ¬ (M = b ∨ M = V') := by
    intro hs
    cases hc : st.shared with
    | none => exact absurd hc hs
    | some D =>
      rw [hc] at hsh
      refine hne M hsh.lt (ShRep.ne_of hsh hb.hb) (fun hv e => ?_)
      cases hc2 : st.vtab with
      | none => exact absurd hc2 hv
      | some l0 =>
        rw [hc2] at hvt
        obtain ⟨cv, _, h2, _⟩ := hvt
        exact ShRep.ne_of hsh (e ▸ h2) rfl
  refine ⟨⟨Y, V', G, M, { r with v2 := v }, c, rfl, ⟨hbb, hYk.trans hb.hy, hb.fit, hb.eq, hb.lim, hb.ne, hb.cap, hb.one, hb.zero⟩, ⟨hrow, ho.oe, ho.vs.fr hf hGk, ho.ne, ho.fi, hsh.fr hf hMk, fun e => hGk (.inr e.symm)⟩⟩, ?_, ?_⟩
  · refine hf.mono (fun i hi h => ?_)
    rcases h with rfl | rfl
    · simp
    · rcases hV' with h | ⟨h, _⟩
      · omega
      · rw [h]; simp
  · intro k hk
    simp only [List.mem_cons, List.not_mem_nil, or_false] at hk ⊢
    rcases hk with rfl | rfl | rfl | rfl | rfl
    · simp
    · simp
    · rcases hV' with h | ⟨h, _⟩
      · exact .inr h
      · rw [h]; simp
    · simp
    · simp

/-- The first cells of a row are 0. -/
def Zr (w2 wr : World) (V m i : Nat) : Prop := ∃ c' : Array Value, wr.heap[V]? = some (.cells c' 77) ∧ c'.size = m ∧ c'.toList.take i = u32s (List.replicate i 0) ∧ Fr (fun k => k = V) w2 wr
theorem Zr.step {w2 wr : World} {V m i : Nat} (h : Zr w2 wr V m i) (hi : i < m) : Zr w2 (wr.setCell ⟨V, i, none⟩ (.int .u32 0)) V m (i + 1) := by
  obtain ⟨c', h1, h2, h3, h4⟩ := h
  refine ⟨c'.setIfInBounds i (.int .u32 0), heap_setCell_same h1 i _, by simpa using h2, ?_, h4.setCell (fun _ => rfl) _⟩
  rw [Array.toList_setIfInBounds, List.take_succ_eq_append_getElem (by simpa using by omega), List.take_set_of_le (Nat.le_refl _), h3]
  simp [u32s, List.replicate_succ']
def BSt.startObj (st : BSt) (n : Nat) : Option BSt := if st.nested then none else some { st with nested := true, vtab := some (List.replicate n 0), oend := st.m.bytes.length }

set_option maxRecDepth 20000 in
set_option maxHeartbeats 4000000 in
theorem StartObject_calls (b : Nat) (F : List Nat) (st : BSt) (n : Nat) (w : World) (h : BRep w b F st) (hn : n ≤ 1000) :
    Calls Tryz.prog 48 #[.pointer (some ⟨b, 0, none⟩), .int .i64 n] w (BRes w b F (unitRes (st.startObj n))) := by
  have HA := Lib.hid (assertNotNested_calls b F st w h)
  cases hne : st.nested with
  | true =>
    have e : unitRes (st.startObj n) = none := by unfold BSt.startObj unitRes; rw [hne]; rfl
    rw [e]
    rw [hne] at HA
    clear h hne
    go_enter Tryz.func48, Tryz.ntmps48
    go_wp2_with fail
    refine HA.out.mono ?_
    rintro e w' ⟨⟨u, v, rfl⟩, rfl⟩
    exact ⟨rfl, ⟨u, v, rfl⟩, Fr.refl _ _⟩
  | false =>
    have e : unitRes (st.startObj n) = some (.tuple #[], { st with nested := true, vtab := some (List.replicate n 0), oend := st.m.bytes.length }) := by unfold BSt.startObj unitRes; rw [hne]; rfl
    rw [e]
    rw [hne] at HA
    obtain ⟨c6, _⟩ := h.cells
    have f2 := h.frozen 2
    have f3 := h.frozen 3
    have f6 := h.frozen 6
    have h6 := h.set6 true
    obtain ⟨Y, V, G, M, r, c, hF, hb, ho⟩ := h
    have hbl := lt_of_block hb.hb
    have c2 : w.cell? ⟨b, 2, none⟩ = some r.v2 := by rw [cell_of hb.hb]; rfl
    have c3 : w.cell? ⟨b, 3, none⟩ = some r.v3 := by rw [cell_of hb.hb]; rfl
    -- what a new row leaves
    have hnew : ∃ F', BRep (((w.setCell ⟨b, 6, none⟩ (.bool true)).setCell ⟨b, 2, none⟩ (.slice (some ⟨w.heap.size, 0, none⟩) n n)).alloc (.cells (madeCells #[.int .u32 0] n) 77)) b F' { st with nested := true, vtab := some (List.replicate n 0) } ∧
        Adv w (((w.setCell ⟨b, 6, none⟩ (.bool true)).setCell ⟨b, 2, none⟩ (.slice (some ⟨w.heap.size, 0, none⟩) n n)).alloc (.cells (madeCells #[.int .u32 0] n) 77)) F F' := by
      subst hF
      obtain ⟨⟨Y', V', G', M', r', c', hF', hb', ho'⟩, ha'⟩ := h6
      obtain ⟨rfl, rfl, rfl, rfl⟩ : Y = Y' ∧ V = V' ∧ G = G' ∧ M = M' := by simpa using hF'
      have hsz : (w.setCell ⟨b, 6, none⟩ (.bool true)).heap.size = w.heap.size := by simp [World.setCell]
      have hbl' := lt_of_block hb'.hb
      have hfr : Fr (fun k => k = b ∨ k = w.heap.size) (w.setCell ⟨b, 6, none⟩ (.bool true)) (((w.setCell ⟨b, 6, none⟩ (.bool true)).setCell ⟨b, 2, none⟩ (.slice (some ⟨w.heap.size, 0, none⟩) n n)).alloc (.cells (madeCells #[.int .u32 0] n) 77)) :=
        ((Fr.refl _ _).setCell (fun _ => .inl rfl) _).alloc _
      have hsz2 : ((w.setCell ⟨b, 6, none⟩ (.bool true)).setCell ⟨b, 2, none⟩ (.slice (some ⟨w.heap.size, 0, none⟩) n n)).heap.size = w.heap.size := by simp [World.setCell]
      have hnb : (((w.setCell ⟨b, 6, none⟩ (.bool true)).setCell ⟨b, 2, none⟩ (.slice (some ⟨w.heap.size, 0, none⟩) n n)).alloc (.cells (madeCells #[.int .u32 0] n) 77)).heap[w.heap.size]? = some (.cells (madeCells #[.int .u32 0] n) 77) := by
        rw [heap_alloc_get, if_pos hsz2.symm]
      have := BRep.vtother (V' := w.heap.size) (l := List.replicate n 0) hb' ho' hfr (.inl (by omega)) ((heap_alloc_old _ _ _ (by rw [hsz2]; exact hbl)).trans (heap_setCell_same hb'.hb 2 _)) ⟨madeCells #[.int .u32 0] n, by rw [size_madeCells]; simp, hnb, by rw [size_madeCells]; simp, by rw [toList_madeCells_one]; simp [u32s], by rw [size_madeCells]; unfold maxLen; omega⟩
      exact ⟨_, this.1, ha'.trans this.2⟩
    obtain ⟨i1, hj, hy0, hy1, hy2⟩ := info_parts' infoU32o
    have hmk2 := fun w' => run_make (P := Tryz.prog) w' 79 77 i1 (.int .u32 0) Tryz.underlying79 hj hy0 .i64 .i64 n n (by omega) (by omega) (by rw [hy2]; omega) (by omega)
    rw [hy1] at hmk2
    simp only [Int.toNat_natCast, Nat.mul_one, Value.cells] at hmk2
    have HNEW := Lib.hid hnew
    clear hnew
    have HMK := Lib.hid hmk2
    clear hmk2
    -- the end, behind a new row
    have hvt := ho.vt
    cases hv : st.vtab with
    | none =>
      rw [hv] at hvt
      rw [hvt.1] at c2
      clear h6 hb ho hF hvt hv hj hy0 hy1 hy2
      have hnil := fun w => Go.run_eql_slice_nil (P := Tryz.prog) w 79 77 none 0 0 Tryz.underlying79
      have hcase : 0 < n ∨ n = 0 := by omega
      rcases hcase with hd | rfl
      · have hmk2 := HMK.out
        have hd2 : decide (0 < n) = true := by simpa using hd
        go_enter Tryz.func48, Tryz.ntmps48
        go_wp2_with fail
        refine HA.out.mono ?_
        rintro e w' ⟨rfl, rfl⟩
        go_wp2_with fail
        obtain ⟨F1, hb1, ha1⟩ := HNEW.out
        generalize ((w'.setCell ⟨b, 6, none⟩ (.bool true)).setCell ⟨b, 2, none⟩ (.slice (some ⟨w'.heap.size, 0, none⟩) n n)).alloc (.cells (madeCells #[.int .u32 0] n) 77) = w1 at *
        have e3 := hb1.cells.2.2.1
        have g3 := hb1.frozen 3
        have HO := Lib.hid (Offset_b b F1 _ w1 hb1)
        have H3 := Lib.hid (fun m => (hb1.drewN m).set3 st.m.bytes.length)
        have HAD := Lib.hid ha1
        clear hb1 ha1 HNEW
        refine HO.out.mono ?_
        rintro e w2 ⟨rfl, m, rfl⟩
        go_wp2_with fail
        go_end0
        exact ⟨rfl, F1, (H3.out m).1, (HAD.out.drewN m).trans (H3.out m).2⟩
      · have hmk2 := HMK.out
        have hz : ((0 : Nat) : Int) = 0 := rfl
        simp only [hz] at hmk2
        clear hz
        go_enter Tryz.func48, Tryz.ntmps48
        go_wp2_with fail
        refine HA.out.mono ?_
        rintro e w' ⟨rfl, rfl⟩
        go_wp2_with fail
        obtain ⟨F1, hb1, ha1⟩ := HNEW.out
        generalize ((w'.setCell ⟨b, 6, none⟩ (.bool true)).setCell ⟨b, 2, none⟩ (.slice (some ⟨w'.heap.size, 0, none⟩) 0 0)).alloc (.cells (madeCells #[.int .u32 0] 0) 77) = w1 at *
        have e3 := hb1.cells.2.2.1
        have g3 := hb1.frozen 3
        have HO := Lib.hid (Offset_b b F1 _ w1 hb1)
        have H3 := Lib.hid (fun m => (hb1.drewN m).set3 st.m.bytes.length)
        have HAD := Lib.hid ha1
        clear hb1 ha1 HNEW
        refine HO.out.mono ?_
        rintro e w2 ⟨rfl, m, rfl⟩
        go_wp2_with fail
        go_end0
        exact ⟨rfl, F1, (H3.out m).1, (HAD.out.drewN m).trans (H3.out m).2⟩
    | some l =>
      have hvt2 := hvt
      rw [hv] at hvt
      obtain ⟨cv, h1, h2, h3, h4, h5⟩ := hvt
      rw [h1] at c2
      have hnil := fun w => Go.run_eql_slice_nil (P := Tryz.prog) w 79 77 (some ⟨V, 0, none⟩) l.length cv.size Tryz.underlying79
      by_cases hd : cv.size < n
      · have hd2 : decide (cv.size < n) = true := by simpa using hd
        have hmk2 := HMK.out
        clear h6 hb ho hF hvt2 hv hj hy0 hy1 hy2 h1 h2 h3 h4 h5
        go_enter Tryz.func48, Tryz.ntmps48
        go_wp2_with fail
        refine HA.out.mono ?_
        rintro e w' ⟨rfl, rfl⟩
        go_wp2_with fail
        obtain ⟨F1, hb1, ha1⟩ := HNEW.out
        generalize ((w'.setCell ⟨b, 6, none⟩ (.bool true)).setCell ⟨b, 2, none⟩ (.slice (some ⟨w'.heap.size, 0, none⟩) n n)).alloc (.cells (madeCells #[.int .u32 0] n) 77) = w1 at *
        have e3 := hb1.cells.2.2.1
        have g3 := hb1.frozen 3
        have HO := Lib.hid (Offset_b b F1 _ w1 hb1)
        have H3 := Lib.hid (fun m => (hb1.drewN m).set3 st.m.bytes.length)
        have HAD := Lib.hid ha1
        clear hb1 ha1 HNEW
        refine HO.out.mono ?_
        rintro e w2 ⟨rfl, m, rfl⟩
        go_wp2_with fail
        go_end0
        exact ⟨rfl, F1, (H3.out m).1, (HAD.out.drewN m).trans (H3.out m).2⟩
      · have hd2 : decide (cv.size < n) = false := by simpa using hd
        have hle : n ≤ cv.size := by omega
        have hsl := fun w => run_slice_to (P := Tryz.prog) Tryz.underlying79 sizeU32o V 0 l.length cv.size .i64 n n rfl hle w
        have hVb : V ≠ b := OffRow.ne_of (by rw [hv] at hvt2; exact hvt2) hb.hb (by decide)
        -- the loop's words, and its end
        have hend : ∀ wr c', wr.heap[V]? = some (.cells c' 77) → c'.size = cv.size → c'.toList.take n = u32s (List.replicate n 0) → Fr (fun k => k = V) ((w.setCell ⟨b, 6, none⟩ (.bool true)).setCell ⟨b, 2, none⟩ (.slice (some ⟨V, 0, none⟩) n cv.size)) wr →
            BRep wr b F { st with nested := true, vtab := some (List.replicate n 0) } ∧ Adv w wr F F := by
          intro wr c' hV hc' ht hf
          subst hF
          obtain ⟨⟨Y', V', G', M', r', c2', hF', hb', ho'⟩, ha'⟩ := h6
          obtain ⟨rfl, rfl, rfl, rfl⟩ : Y = Y' ∧ V = V' ∧ G = G' ∧ M = M' := by simpa using hF'
          have hfr : Fr (fun k => k = b ∨ k = V) (w.setCell ⟨b, 6, none⟩ (.bool true)) wr := ((Fr.refl _ _).setCell (S := fun k => k = b ∨ k = V) (fun _ => .inl rfl) _).trans (hf.mono (fun _ _ h => .inr h))
          have := BRep.vtother (V' := V) (l := List.replicate n 0) hb' ho' hfr (.inr ⟨rfl, by show st.vtab ≠ none; rw [hv]; simp⟩) ((hf.block b (by simp [World.setCell]; exact hbl) (fun e => hVb e.symm)).trans (heap_setCell_same hb'.hb 2 _)) ⟨c', by rw [hc']; simp, hV, by rw [hc']; simp; omega, by simpa using ht, by rw [hc']; exact h5⟩
          exact ⟨this.1, ha'.trans this.2⟩
        have hV0 : ((w.setCell ⟨b, 6, none⟩ (.bool true)).setCell ⟨b, 2, none⟩ (.slice (some ⟨V, 0, none⟩) n cv.size)).heap[V]? = some (.cells cv 77) := by
          rw [heap_setCell_other _ _ _ _ hVb, heap_setCell_other _ _ _ _ hVb]; exact h2
        have HEND := Lib.hid hend
        have HV0 := Lib.hid hV0
        have HVB := Lib.hid hVb
        have hVl := lt_of_block h2
        have HLE := Lib.hid hle
        clear h6 hb ho hF hvt2 hv hj hy0 hy1 hy2 h1 h2 h3 h4 h5 hend hV0 hVb HNEW HMK hle
        go_enter Tryz.func48, Tryz.ntmps48
        go_wp2_with fail
        refine HA.out.mono ?_
        rintro e w' ⟨rfl, rfl⟩
        go_wp2_with fail
        go_loopw [4] (fun iv wr => ∃ i : Nat, i ≤ n ∧ iv = .int .i64 i ∧ Zr ((w'.setCell ⟨b, 6, none⟩ (.bool true)).setCell ⟨b, 2, none⟩ (.slice (some ⟨V, 0, none⟩) n cv.size)) wr V cv.size i) (fun iv _ => n - (intOf iv).toNat)
        case atStart => exact ⟨0, Nat.zero_le _, rfl, cv, HV0.out, rfl, rfl, Fr.refl _ _⟩
        case round =>
          obtain ⟨i, hi1, rfl, hZ⟩ := hrel
          have HZ := Lib.hid hZ
          obtain ⟨c', z1, z2, z3, z4⟩ := hZ
          have hle := HLE.out
          have hVb := HVB.out
          have hzb : wr.cell? ⟨b, 2, none⟩ = some (.slice (some ⟨V, 0, none⟩) n cv.size) := by
            rw [Fr.cell z4 (p := ⟨b, 2, none⟩) (by simpa [World.setCell] using hbl) (fun e => hVb e.symm)]
            simp [go_sem, c2]
          by_cases hlt : i < n
          · obtain ⟨v0, cV⟩ : ∃ v0, wr.cell? ⟨V, i, none⟩ = some v0 := ⟨_, (cell_of z1 i).trans (Array.getElem?_eq_getElem (by omega))⟩
            have fV := frozen_of z1 i
            clear z1 z2 z3 z4 hle hVb
            go_wp2_with fail
            go_roundw
            case rel => exact ⟨i + 1, by omega, by go_num, HZ.out.step (by have := HLE.out; omega)⟩
            case measure => simp [intOf]; omega
          · obtain rfl : i = n := by omega
            obtain ⟨hb1, ha1⟩ := HEND.out wr c' z1 z2 z3 z4
            have e3 := hb1.cells.2.2.1
            have g3 := hb1.frozen 3
            have HO := Lib.hid (Offset_b b F _ wr hb1)
            have H3 := Lib.hid (fun m => (hb1.drewN m).set3 st.m.bytes.length)
            have HAD := Lib.hid ha1
            clear hb1 ha1 z1 z2 z3 z4 hle hVb
            go_wp2_with fail
            refine HO.out.mono ?_
            rintro e w2 ⟨rfl, m, rfl⟩
            go_wp2_with fail
            go_end0
            exact ⟨rfl, F, (H3.out m).1, (HAD.out.drewN m).trans (H3.out m).2⟩
end Go.Proofs.YtfplgggepoaajaaGreat
