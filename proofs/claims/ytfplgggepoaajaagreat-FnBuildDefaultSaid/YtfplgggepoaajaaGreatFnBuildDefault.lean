/- FnBuildDefault: a scalar that is equal to its default is not put into an object; one that isn't stands there, and its field says where. -/
import Derived.Test.YtfplgggepoaajaaGreatRight
import Derived.Test.YtfplgggepoaajaaGreatObj
namespace Go.Proofs.YtfplgggepoaajaaGreat
open Go.RowKit
set_option linter.unusedVariables false
set_option linter.unusedSimpArgs false

theorem infoSStep4 : (Tryz.prog.info? 28).map (fun i => (i.zero, i.size, i.bytes)) = some (some (.agg #[.int .u8 0, .int .u8 0, .int .i64 0, .int .u64 0, .int .u64 0, .int .u32 0, .int .i64 0, .int .i64 0, .int .i64 0, .int .i64 0, .string ⟨#[]⟩]), 11, 88) := by kernel_rfl
theorem od_one (l : List BS) : ∀ u ∈ l.flatMap bsC, u.oneCell' = true := by
  intro u hu
  obtain ⟨s, _, hs⟩ := List.mem_flatMap.1 hu
  exact bsC_one s u hs
theorem own_slice1 {w : World} {base : Nat} {e : TypeId} {z n : Nat} {v : Value} {xs : List Value} (h : w.ownsRow base e z v n xs) (hn : 0 < n) : ∃ g cap, v = .slice (some ⟨g, 0, none⟩) n cap ∧ base ≤ g ∧ g < w.heap.size := by
  rcases h.2 with ⟨_, h0⟩ | ⟨g, cap, cur, rfl, hb, hg, h1, h2, h3, h4⟩
  · omega
  · exact ⟨g, cap, rfl, hb, lt_of_block hg⟩
theorem own_base0 {w : World} {base : Nat} {e : TypeId} {z n : Nat} {v : Value} {xs : List Value} (h : w.ownsRow base e z v n xs) : w.ownsRow 0 e z v n xs := ⟨h.1, h.2.imp id (fun ⟨g, cap, cur, e1, _, e3⟩ => ⟨g, cap, cur, e1, Nat.zero_le _, e3⟩)⟩
theorem own_litB {w : World} {t : TypeId} {z n : Nat} {xs : List Value} (hx : xs.length = n * z) (hn : n ≤ 1000000) : (w.alloc (.cells xs.toArray t)).ownsRow w.heap.size t z (.slice (some ⟨w.heap.size, 0, none⟩) n n) n xs := by
  refine ⟨hx, .inr ⟨w.heap.size, n, xs.toArray, rfl, Nat.le_refl _, heap_alloc_new w _, Nat.le_refl _, by unfold maxLen; omega, by simpa using hx, by rw [← hx]; simp⟩⟩
theorem own_news {w : World} {base : Nat} {e : TypeId} {z n g cap : Nat} {xs : List Value} (h : w.ownsRow base e z (.slice (some ⟨g, 0, none⟩) n cap) n xs) (j : Nat) (u : Value) (hu : xs[j]? = some u) : w.cell? ((⟨g, 0, none⟩ : Addr).add j) = some u := by
  have hadd : (⟨g, 0, none⟩ : Addr).add j = ⟨g, j, none⟩ := by unfold Addr.add; split <;> simp_all
  rw [hadd]
  rcases h.2 with ⟨h0, _⟩ | ⟨g', cap', cur, e1, hb, hg, h1, h2, h3, h4⟩
  · cases h0
  · injection e1 with e1 _ _
    injection e1 with e1
    injection e1 with e1
    subst e1
    rw [cell_of hg]
    rw [← h4, List.getElem?_take] at hu
    split at hu
    · simpa using hu
    · cases hu
def dfStart : BS := ⟨0, 0, 60, 0, 0, 0, 0, 0, 0, 0, []⟩
def dfEnd : BS := ⟨1, 0, 0, 0, 0, 0, 0, 0, 0, 0, []⟩
def DfRow (m : Nat) (xs : List BS) (w : World) (e : Ending) (w' : World) : Prop := ∃ r, e = .returned r ∧ w'.ownsRow 0 28 11 r (m + 2) ((dfStart :: (xs ++ [dfEnd])).flatMap bsC) ∧ Fr0 w w'

set_option maxRecDepth 20000 in
set_option maxHeartbeats 2000000 in
theorem dfL_some (g m c : Nat) (xs : List BS) (w : World) (hown : w.ownsRow 0 28 11 (.slice (some ⟨g, 0, none⟩) m c) m (xs.flatMap bsC)) (hl : m ≤ 10) :
    Calls Tryz.prog 13 #[.slice (some ⟨g, 0, none⟩) m c] w (DfRow m xs w) := by
  obtain ⟨i0, hi, hz0, hz1, hz2⟩ := info_parts infoSStep4
  have HO := Lib.hid hown
  have HL := Lib.hid hown.1
  clear hown
  go_enter Tryz.func13, Tryz.ntmps13
  go_wp2_with (first | (at_builtin; refine wpList_append_own _ rfl (.tmp 5) (.tmp 6) 25 rfl w.heap.size 28 i0 (.agg #[.int .u8 0, .int .u8 0, .int .i64 0, .int .u64 0, .int .u64 0, .int .u32 0, .int .i64 0, .int .i64 0, .int .i64 0, .int .i64 0, .string ⟨#[]⟩]) 11 88 Tryz.underlying25 hi hz0 hz1 hz2 rfl (by decide) _ _ _ rfl (own_litB (w := w) (t := 28) (z := 11) (n := 1) (xs := bsC dfStart) rfl (by omega)) ⟨g, 0, none⟩ m c (xs.flatMap bsC) rfl HL.out (own_news (HO.out.alloc _)) (od_one _) (by unfold maxLen; omega) (by omega) (by simp) ?_; intro v0 w0 hown0 hgrow0 hnil0; have hs0 := (grown_fr hgrow0).size; rw [size_alloc] at hs0; have HG0 := Lib.hid hgrow0; have HO0 := Lib.hid hown0; clear hgrow0 hown0 hnil0) | (at_builtin; refine wpList_append_own _ rfl (.tmp 8) (.tmp 10) 25 rfl w.heap.size 28 i0 (.agg #[.int .u8 0, .int .u8 0, .int .i64 0, .int .u64 0, .int .u64 0, .int .u32 0, .int .i64 0, .int .i64 0, .int .i64 0, .int .i64 0, .string ⟨#[]⟩]) 11 88 Tryz.underlying25 hi hz0 hz1 hz2 rfl (by decide) _ _ _ rfl (HO0.out.alloc _) ⟨w0.heap.size, 0, none⟩ 1 1 (bsC dfEnd) rfl rfl (newCellsL _ _ _ _ rfl) (bsC_one _) (by unfold maxLen; omega) (by omega) (by simp; omega) ?_; intro v1 w1 hown1 hgrow1 hnil1))
  have hb0 := own_block_lt HO0.out
  have hf1 : Fr0 w w1 := ((((Fr.refl (fun _ => False) w).alloc _).trans2 (S := fun _ => False) (grown_fr HG0.out) (fun k hk e => by have e2 : some k = some w.heap.size := e; injection e2 with e2; omega)).alloc _).trans2 (S := fun _ => False) (grown_fr hgrow1) (fun k hk e => by have := (hb0 k e.symm).1; omega)
  have HF1 := Lib.hid hf1
  have HO1 := Lib.hid hown1
  clear hf1 hown1 hgrow1 hnil1 hb0
  go_wp2_with fail
  go_ret
  refine ⟨v1, rfl, ?_, HF1.out⟩
  have := own_base0 HO1.out
  have e : (dfStart :: (xs ++ [dfEnd])).flatMap bsC = bsC dfStart ++ xs.flatMap bsC ++ bsC dfEnd := by simp
  rw [e, show m + 2 = 1 + m + 1 by omega]
  exact this
set_option maxRecDepth 20000 in
set_option maxHeartbeats 2000000 in
theorem dfL_nil (w : World) : Calls Tryz.prog 13 #[.slice none 0 0] w (DfRow 0 [] w) := by
  obtain ⟨i0, hi, hz0, hz1, hz2⟩ := info_parts infoSStep4
  go_enter Tryz.func13, Tryz.ntmps13
  go_wp2_with (first | (at_builtin; refine wpList_append_own_none rfl (.tmp 5) (.tmp 6) 25 rfl w.heap.size 28 i0 11 Tryz.underlying25 hi _ _ _ rfl (own_litB (w := w) (t := 28) (z := 11) (n := 1) (xs := bsC dfStart) rfl (by omega)) rfl ?_) | (at_builtin; refine wpList_append_own _ rfl (.tmp 8) (.tmp 10) 25 rfl w.heap.size 28 i0 (.agg #[.int .u8 0, .int .u8 0, .int .i64 0, .int .u64 0, .int .u64 0, .int .u32 0, .int .i64 0, .int .i64 0, .int .i64 0, .int .i64 0, .string ⟨#[]⟩]) 11 88 Tryz.underlying25 hi hz0 hz1 hz2 rfl (by decide) _ _ _ rfl ((own_litB (w := w) (t := 28) (z := 11) (n := 1) (xs := bsC dfStart) rfl (by omega)).alloc _) ⟨w.heap.size + 1, 0, none⟩ 1 1 (bsC dfEnd) rfl rfl (newCellsL _ _ _ _ (by simp)) (bsC_one _) (by unfold maxLen; omega) (by omega) (by simp; omega) ?_; intro v1 w1 hown1 hgrow1 hnil1))
  have hf1 : Fr0 w w1 := (((Fr.refl (fun _ => False) w).alloc _).alloc _).trans2 (S := fun _ => False) (grown_fr hgrow1) (fun k hk e => by have e2 : some k = some w.heap.size := e; injection e2 with e2; omega)
  have HF1 := Lib.hid hf1
  have HO1 := Lib.hid hown1
  clear hf1 hown1 hgrow1 hnil1
  go_wp2_with fail
  go_ret
  exact ⟨v1, rfl, own_base0 HO1.out, HF1.out⟩

/-! The plain law. -/
def dfP (k s n els : Nat) : BS := ⟨3, k, s, n, els, 0, 0, 0, 0, 0, []⟩
def dfA (k n : Nat) : BS := ⟨2, k, 0, n, 0, 0, 0, 0, 0, 0, []⟩
def dfB (s : Nat) : BS := ⟨9, 0, s, 0, 0, 0, 0, 0, 0, 0, []⟩
def df0 : BSt := ⟨⟨0, 1, []⟩, some (List.replicate 60 0), 0, [], true, false, none⟩
theorem df_start (o : Nat) : mStep (st0 0) dfStart o = some (0, [], df0) := rfl
theorem df_bare : ∃ an st', mScript 0 (dfStart :: ([] ++ [dfEnd])) = (an, some st') ∧ st'.m.bytes = [4, 0, 4, 0, 4, 0, 0, 0] ∧ an.length = 2 := by
  refine ⟨(mScript 0 (dfStart :: ([] ++ [dfEnd]))).1, ((mScript 0 (dfStart :: ([] ++ [dfEnd]))).2).getD (st0 0), ?_, ?_, ?_⟩
  · kernel_rfl
  · kernel_rfl
  · kernel_rfl
theorem trimZ_zeros (l : List Nat) (x : Nat) (h : x ≠ 0) : ∀ m : Nat, trimZ (l ++ x :: List.replicate m 0) = l ++ [x]
  | 0 => trimZ_snoc l x h
  | m + 1 => by
    have ih := trimZ_zeros l x h m
    have e : l ++ x :: List.replicate (m + 1) 0 = (l ++ x :: List.replicate m 0) ++ [0] := by
      rw [List.replicate_succ']; simp
    rw [e, trimZ_snoc_zero, ih]
theorem set_zeros (n s z : Nat) (h : s < n) : (List.replicate n 0).set s z = List.replicate s 0 ++ z :: List.replicate (n - 1 - s) 0 := by
  apply List.ext_getElem?
  intro i
  rw [List.getElem?_set]
  by_cases h1 : s = i
  · subst h1
    rw [if_pos rfl]
    simp [h]
  · rw [if_neg h1]
    by_cases h2 : i < s
    · rw [List.getElem?_append_left (by simpa using h2)]
      simp [h2, List.getElem?_replicate]
      omega
    · rw [List.getElem?_append_right (by simp; omega)]
      simp only [List.length_replicate]
      rw [show i - s = (i - s - 1) + 1 by omega, List.getElem?_cons_succ, List.getElem?_replicate, List.getElem?_replicate]
      split <;> split <;> first | rfl | omega
theorem vtFlds_zeros (o : Nat) : ∀ s : Nat, vtFlds o (List.replicate s 0) = List.replicate (2 * s) 0
  | 0 => rfl
  | s + 1 => by
    rw [show 2 * (s + 1) = 2 * s + 1 + 1 by omega, List.replicate_succ, List.replicate_succ, List.replicate_succ, ← vtFlds_zeros o s]
    rfl
/-- What the object's bytes are: T the place of the object, o its offset, z the scalar's size. -/
structure DfBytes (D : List UInt8) (s z n o T : Nat) : Prop where
  len : D.length = T + o
  t : T = 2 * s + 6
  o1 : z + 4 ≤ o
  o2 : o ≤ 12
  first : D[0]? = some (UInt8.ofNat T)
  soff : ∃ a b, D = a ++ (leB 4 T ++ b) ∧ a.length = T
  fld : ∃ a b, D = a ++ (leB 2 (o - z) ++ b) ∧ a.length = 4 + 2 * s
  num : ∃ a, D = a ++ leB z n ∧ a.length = T + (o - z)
theorem df_end (k s n z : Nat) (hz : z = numSize k) (hs : s < 60) (hr : Right (k : Int) n) (st : BSt) (h1 : st.m.bytes = numB k n) (h2 : st.vtab = some ((List.replicate 60 0).set s z)) (h3 : st.nested = true) (h4 : st.vts = []) (h5 : st.oend = 0) :
    ∃ st' o T, st.endObj = some (o, st') ∧ DfBytes st'.m.bytes s z n o T := by
  have ha := numSize_algn hr.1 hr.2.1
  have hle := numSize_le (k : Int)
  have hz0 : 1 ≤ z ∧ z ≤ 8 := by unfold algn at ha; omega
  have hnb : numB k n = leB z n := by
    unfold numB
    split
    · rename_i hk
      have := hr.2.2.1 hk.1
      rw [show n = 1 by omega, hz]
    · rw [hz]
  have hlb : st.m.bytes.length = z := by rw [h1, hnb, leB_length]
  have ht : trimZ (st.vtab.getD []) = List.replicate s 0 ++ [z] := by
    rw [h2]
    show trimZ ((List.replicate 60 0).set s z) = _
    rw [set_zeros 60 s z hs, trimZ_zeros _ _ (by omega)]
  obtain ⟨st', o, ho, e, _, _, _, _, _, hb, hl, _⟩ := endObj_fresh st h3 (by rw [ht, h4]; rfl)
  rw [ht] at hb hl
  have htl : (List.replicate s 0 ++ [z]).length = s + 1 := by simp
  rw [htl] at hb hl
  obtain ⟨T, hT⟩ : ∃ T, T = 2 * (s + 1) + 4 := ⟨_, rfl⟩
  rw [← hT] at hb hl
  have hv := (vt1_len st).1
  rw [← ho, hlb] at hv
  have hp : padB z 4 ≤ 3 ∧ padB z 4 + z ≤ 8 := by
    have : z = 1 ∨ z = 2 ∨ z = 4 ∨ z = 8 := by unfold algn at ha; omega
    unfold padB
    rcases this with h | h | h | h <;> rw [h] <;> omega
  have hob : objBytes st (T : Int) = leB 4 T ++ (List.replicate (padB z 4) 0 ++ leB z n) := by
    unfold objBytes
    rw [leI_nat, h1, hnb, leB_length]
  have hfl : vtFlds o (List.replicate s 0 ++ [z]) = List.replicate (2 * s) 0 ++ leB 2 (o - z) := by
    unfold vtFlds
    rw [List.flatMap_append]
    congr 1
    · exact vtFlds_zeros o s
    · rw [List.flatMap_cons, List.flatMap_nil, List.append_nil, if_neg (by omega), show (o : Int) - (z : Int) = ((o - z : Nat) : Int) by omega, leI_nat]
  have hz2 := hz0
  rw [hob, hfl, h5, show (o : Int) - (0 : Nat) = (o : Int) by omega, leI_nat, leI_nat] at hb
  refine ⟨st', o, T, e, hl, by omega, by omega, by omega, ?_, ?_, ?_, ?_⟩
  · rw [hb]
    show (leB 2 T ++ _)[0]? = _
    rw [List.getElem?_append_left (by rw [leB_length]; omega), leB_get 2 T 0 (by omega)]
    simp
  · refine ⟨leB 2 T ++ (leB 2 o ++ (List.replicate (2 * s) 0 ++ leB 2 (o - z))), List.replicate (padB z 4) 0 ++ leB z n, ?_, ?_⟩
    · rw [hb]; simp only [List.append_assoc]
    · simp only [List.length_append, leB_length, List.length_replicate]; omega
  · refine ⟨leB 2 T ++ (leB 2 o ++ List.replicate (2 * s) 0), leB 4 T ++ (List.replicate (padB z 4) 0 ++ leB z n), ?_, ?_⟩
    · rw [hb]; simp only [List.append_assoc]
    · simp only [List.length_append, leB_length, List.length_replicate]; omega
  · refine ⟨leB 2 T ++ (leB 2 o ++ (List.replicate (2 * s) 0 ++ (leB 2 (o - z) ++ (leB 4 T ++ List.replicate (padB z 4) 0)))), ?_, ?_⟩
    · rw [hb]; simp only [List.append_assoc]
    · simp only [List.length_append, leB_length, List.length_replicate]; omega
theorem df_put (k n : Nat) (hr : Right (k : Int) n) : ∃ m, m = (df0.m.prep (numSize k) 0).put (numB k n) ∧ m.bytes = numB k n ∧ m.bytes.length = numSize k := by
  refine ⟨_, rfl, ?_, ?_⟩
  · show numB k n ++ (df0.m.prep (numSize k) 0).bytes = _
    rw [prep_id _ _ _ (numSize_algn hr.1 hr.2.1) (by show (0 + 0) % _ = 0; simp)]
    show numB k n ++ [] = _
    simp
  · show (numB k n ++ (df0.m.prep (numSize k) 0).bytes).length = _
    rw [prep_id _ _ _ (numSize_algn hr.1 hr.2.1) (by show (0 + 0) % _ = 0; simp)]
    show (numB k n ++ []).length = _
    simp [numB_length]
theorem df_same (k s n els : Nat) (h : sameNum k n els = true) : ∃ an st', mScript 0 (dfStart :: ([dfP k s n els] ++ [dfEnd])) = (an, some st') ∧ st'.m.bytes = [4, 0, 4, 0, 4, 0, 0, 0] ∧ an.length = 3 := by
  obtain ⟨an, st', e, hb, hl⟩ := df_bare
  have e1 : mStep df0 (dfP k s n els) (offOf (dfP k s n els) ([] ++ [⟨0, df0.m.bytes.length, [], false⟩])) = some (0, [], df0) := by
    show unitN (df0.prepSlot _ _ _ (sameNum k n els)) = _
    rw [h]; rfl
  have e0 : mScript 0 (dfStart :: ([] ++ [dfEnd])) = mRunB [dfEnd] ([] ++ [⟨0, df0.m.bytes.length, [], false⟩]) df0 := mRunB_cons (df_start _)
  have e2 : mScript 0 (dfStart :: ([dfP k s n els] ++ [dfEnd])) = mRunB [dfEnd] ([] ++ [⟨0, df0.m.bytes.length, [], false⟩] ++ [⟨0, df0.m.bytes.length, [], false⟩]) df0 := by
    show mRunB (dfStart :: (dfP k s n els :: [dfEnd])) [] (st0 0) = _
    rw [mRunB_cons (df_start _), mRunB_cons e1]
  have hE : ∀ a, mRunB [dfEnd] a df0 = (a ++ [⟨(df0.endObj.getD (0, df0)).1, (df0.endObj.getD (0, df0)).2.m.bytes.length, [], false⟩], some (df0.endObj.getD (0, df0)).2) := by
    intro a
    rw [mRunB_cons (r := (df0.endObj.getD (0, df0)).1) (t := []) (st' := (df0.endObj.getD (0, df0)).2) (show mStep df0 dfEnd _ = _ from rfl)]
    rfl
  rw [e0, hE] at e
  injection e with _ e
  injection e with e
  rw [e2, hE]
  exact ⟨_, _, rfl, by rw [e]; exact hb, rfl⟩
theorem df_diff (k s n els : Nat) (hs : s < 60) (hr : Right (k : Int) n) : ∃ D o T, DfBytes D s (numSize k) n o T ∧
    (sameNum k n els = false → ∃ an st', mScript 0 (dfStart :: ([dfP k s n els] ++ [dfEnd])) = (an, some st') ∧ st'.m.bytes = D ∧ an.length = 3 ∧ ∃ x, an[2]? = some x ∧ x.r = o) ∧
    (∃ an st', mScript 0 (dfStart :: ([dfA k n, dfB s] ++ [dfEnd])) = (an, some st') ∧ st'.m.bytes = D ∧ an.length = 4) := by
  obtain ⟨m, hm, hb, hl⟩ := df_put k n hr
  let S1 : BSt := ⟨m, some (List.replicate 60 0), 0, [], true, false, none⟩
  let S2 : BSt := ⟨m, some ((List.replicate 60 0).set s (numSize k)), 0, [], true, false, none⟩
  have hslot : S1.slot (s : Nat) = some S2 := by
    show (if (0 : Int) ≤ (s : Nat) ∧ ((s : Nat) : Int).toNat < (List.replicate 60 0).length then some _ else none) = _
    rw [if_pos ⟨by omega, by simpa using hs⟩]
    show some (⟨m, some ((List.replicate 60 0).set ((s : Nat) : Int).toNat m.bytes.length), 0, [], true, false, none⟩ : BSt) = _
    rw [hl]; rfl
  obtain ⟨st', o, T, e, hD⟩ := df_end k s n (numSize k) rfl hs hr S2 hb rfl rfl rfl rfl
  have hE : ∀ a, mRunB [dfEnd] a S2 = (a ++ [⟨o, st'.m.bytes.length, [], false⟩], some st') := by
    intro a
    rw [mRunB_cons (r := o) (t := []) (st' := st') (show mStep S2 dfEnd _ = _ by show numN S2.endObj = _; rw [e]; rfl)]
    rfl
  have e1 : sameNum k n els = false → ∀ x, mStep df0 (dfP k s n els) x = some (0, [], S2) := by
    intro h x
    show unitN (df0.prepSlot _ _ _ (sameNum k n els)) = _
    rw [h]
    show unitN (BSt.slot { df0 with m := (df0.m.prep (numSize k) 0).put (numB k n) } (s : Nat)) = _
    rw [← hm]
    show unitN (S1.slot (s : Nat)) = _
    rw [hslot]; rfl
  have e2 : ∀ x, mStep df0 (dfA k n) x = some (0, [], S1) := by
    intro x
    show some (0, [], ({ df0 with m := (df0.m.prep (numSize k) 0).put (numB k n) } : BSt)) = _
    rw [← hm]; rfl
  have e3 : ∀ x, mStep S1 (dfB s) x = some (0, [], S2) := by
    intro x
    show unitN (S1.slot (s : Nat)) = _
    rw [hslot]; rfl
  refine ⟨st'.m.bytes, o, T, hD, ?_, ?_⟩
  · intro h
    refine ⟨[] ++ [⟨0, df0.m.bytes.length, [], false⟩] ++ [⟨0, S2.m.bytes.length, [], false⟩] ++ [⟨o, st'.m.bytes.length, [], false⟩], st', ?_, rfl, rfl, ⟨_, rfl, rfl⟩⟩
    · show mRunB (dfStart :: (dfP k s n els :: [dfEnd])) [] (st0 0) = _
      rw [mRunB_cons (df_start _), mRunB_cons (e1 h _), hE]
  · refine ⟨[] ++ [⟨0, df0.m.bytes.length, [], false⟩] ++ [⟨0, S1.m.bytes.length, [], false⟩] ++ [⟨0, S2.m.bytes.length, [], false⟩] ++ [⟨o, st'.m.bytes.length, [], false⟩], st', ?_, rfl, rfl⟩
    · show mRunB (dfStart :: (dfA k n :: (dfB s :: [dfEnd]))) [] (st0 0) = _
      rw [mRunB_cons (df_start _), mRunB_cons (e2 _), mRunB_cons (e3 _), hE]

/-! The walk. -/
theorem ofNat_byteD (n j : Nat) : (((UInt8.ofNat (n / 256 ^ j)).toNat : Nat) : Int) = (n : Int) / 2 ^ (8 * j) % 256 := by
  have e : (2 : Int) ^ (8 * j) = ((256 ^ j : Nat) : Int) := by rw [Int.pow_mul]; simp
  rw [e]
  have : ((n : Int) / ((256 ^ j : Nat) : Int)) = ((n / 256 ^ j : Nat) : Int) := by simp
  rw [this, UInt8.toNat_ofNat']
  omega
theorem u32or2 (x0 x1 : UInt8) : bits .or .u32 (x0.toNat : Int) ((x1.toNat : Int) * 256) = ((le [x0, x1] : Nat) : Int) := by
  have h := or2 .u32 x0 x1
  rw [bits_wrap_or] at h
  rw [h, le2]
  have h0 := x0.toNat_lt
  have h1 := x1.toNat_lt
  exact IntWalk.u32_in _ (by omega)
theorem run_eql_str (a b : List UInt8) (h : a ≠ b) : ((strOf a).toList == (strOf b).toList) = false := by
  rw [beq_eq_false_iff_ne, ByteArray.toList_eq, ByteArray.toList_eq]; exact h
theorem run_neq_str (a : ByteArray) (w : World) : (Op.stringOp .neq a a).run Tryz.prog w = .ok (.bool false) w := by
  simp [Op.stringOp, go_sem]
theorem ret_bool {b : Bool} (h : b = true) : Ending.returned (.bool b) = .returned (.bool true) := by rw [h]
/-- What the walk reads of the bytes. -/
structure DfRead (DB : ByteArray) (q z n o T R N : Nat) : Prop where
  size : DB.size = N
  hN : N = T + o
  t : T = 2 * q + 6
  hR : R + z = o
  o2 : o ≤ 12
  z4 : z + 4 ≤ o
  x : ∃ x0 x1 x2 x3 : UInt8, le [x0, x1, x2, x3] = T ∧ (∀ w, (Instr.index 9 (.string DB) (.int .i64 T)).run Tryz.prog w = .ok (.int .u8 (x0.toNat : Int)) w) ∧ (∀ w, (Instr.index 9 (.string DB) (.int .i64 ((T : Int) + 1))).run Tryz.prog w = .ok (.int .u8 (x1.toNat : Int)) w) ∧
    (∀ w, (Instr.index 9 (.string DB) (.int .i64 ((T : Int) + 2))).run Tryz.prog w = .ok (.int .u8 (x2.toNat : Int)) w) ∧ (∀ w, (Instr.index 9 (.string DB) (.int .i64 ((T : Int) + 3))).run Tryz.prog w = .ok (.int .u8 (x3.toNat : Int)) w)
  y : ∃ y0 y1 : UInt8, le [y0, y1] = R ∧ (∀ w, (Instr.index 9 (.string DB) (.int .i64 (4 + 2 * (q : Int)))).run Tryz.prog w = .ok (.int .u8 (y0.toNat : Int)) w) ∧ (∀ w, (Instr.index 9 (.string DB) (.int .i64 (5 + 2 * (q : Int)))).run Tryz.prog w = .ok (.int .u8 (y1.toNat : Int)) w)
  first : ∀ w, (Instr.index 9 (.string DB) (.int .i64 0)).run Tryz.prog w = .ok (.int .u8 (T : Int)) w
  num : ∀ i, i < z → ∀ w, (Instr.index 9 (.string DB) (.int .i64 ((T : Int) + (R : Int) + (i : Int)))).run Tryz.prog w = .ok (.int .u8 ((n : Int) / 2 ^ (8 * i) % 256)) w
theorem app_at (a b c : List UInt8) (i : Nat) (h : i < b.length) : (a ++ (b ++ c))[a.length + i]? = b[i]? := by
  rw [List.getElem?_append_right (by omega), show a.length + i - a.length = i by omega, List.getElem?_append_left h]
theorem DfBytes.read {D : List UInt8} {q z n o T : Nat} (h : DfBytes D q z n o T) (hq : q < 60) : DfRead (strOf D) q z n o T (o - z) (T + o) := by
  have h1 := h.o1
  have h2 := h.o2
  have ht := h.t
  refine ⟨by rw [strOf_size, h.len], rfl, ht, by omega, h2, h1, ?_, ?_, ?_, ?_⟩
  · obtain ⟨a, b, hD, hl⟩ := h.soff
    obtain ⟨x0, x1, x2, x3, hx⟩ : ∃ x0 x1 x2 x3, leB 4 T = [x0, x1, x2, x3] := ⟨_, _, _, _, rfl⟩
    have hat : ∀ i, i < 4 → D[T + i]? = (leB 4 T)[i]? := fun i hi => by
      rw [← hl, hD, app_at _ _ _ _ (by rw [leB_length]; exact hi), hl]
    rw [hx] at hat
    refine ⟨x0, x1, x2, x3, by rw [← hx, le_leB]; omega, fun w => run_str_at rfl T (hat 0 (by omega)) w, fun w => run_str_at rfl (T + 1) (hat 1 (by omega)) w, fun w => run_str_at rfl (T + 2) (hat 2 (by omega)) w, fun w => run_str_at rfl (T + 3) (hat 3 (by omega)) w⟩
  · obtain ⟨a, b, hD, hl⟩ := h.fld
    obtain ⟨y0, y1, hy⟩ : ∃ y0 y1, leB 2 (o - z) = [y0, y1] := ⟨_, _, rfl⟩
    have hat : ∀ i, i < 2 → D[4 + 2 * q + i]? = (leB 2 (o - z))[i]? := fun i hi => by
      rw [← hl, hD, app_at _ _ _ _ (by rw [leB_length]; exact hi)]
    rw [hy] at hat
    refine ⟨y0, y1, by rw [← hy, le_leB]; omega, fun w => ?_, fun w => ?_⟩
    · have := run_str_at (D := strOf D) rfl (4 + 2 * q) (hat 0 (by omega)) w
      rw [show ((4 + 2 * q : Nat) : Int) = 4 + 2 * (q : Int) by omega] at this
      exact this
    · have := run_str_at (D := strOf D) rfl (4 + 2 * q + 1) (hat 1 (by omega)) w
      rw [show ((4 + 2 * q + 1 : Nat) : Int) = 5 + 2 * (q : Int) by omega] at this
      exact this
  · intro w
    have := run_str_at (D := strOf D) rfl 0 h.first w
    rw [show (((UInt8.ofNat T).toNat : Nat) : Int) = (T : Int) by rw [UInt8.toNat_ofNat']; omega] at this
    exact this
  · intro i hi w
    obtain ⟨a, hD, hl⟩ := h.num
    have hat : D[T + (o - z) + i]? = (leB z n)[i]? := by
      rw [← hl, hD, List.getElem?_append_right (by omega), show a.length + i - a.length = i by omega]
    rw [leB_get _ _ _ hi] at hat
    have := run_str_at (D := strOf D) rfl _ hat w
    rw [ofNat_byteD, show ((T + (o - z) + i : Nat) : Int) = (T : Int) + ((o - z : Nat) : Int) + (i : Int) by omega] at this
    exact this
theorem df_sok (k n els s : Nat) (hs : s < 60) (hn : n < 2 ^ 64) (he : els < 2 ^ 64) (hr : Right (k : Int) n) (hr2 : Right (k : Int) els) : SOK dfStart ∧ SOK dfEnd ∧ SOK (dfP k s n els) ∧ SOK (dfA k n) ∧ SOK (dfB s) := by
  refine ⟨?_, ?_, ?_, ?_, ?_⟩
  · constructor <;> simp [dfStart]
  · constructor <;> simp [dfEnd]
  · constructor <;> simp [dfP, hr, hr2] <;> omega
  · constructor <;> simp [dfA, hr] <;> omega
  · constructor <;> simp [dfB]
def DfRes (n : Nat) (D : ByteArray) (w : World) (e : Ending) (w' : World) : Prop := ∃ g cap, e = .returned (.tuple #[.slice (some ⟨g, 0, none⟩) n cap, .string D, .bool true]) ∧ Fr0 w w'
def DfRes2 (o : Nat) (D : ByteArray) (w : World) (e : Ending) (w' : World) : Prop := ∃ g cap, e = .returned (.tuple #[.slice (some ⟨g, 0, none⟩) 3 cap, .string D, .bool true]) ∧ Fr0 w w' ∧ g < w'.heap.size ∧ w'.cell? ⟨g, 8, none⟩ = some (.int .u32 (o : Nat))
theorem Run_df (steps : List BS) (m n : Nat) (an : List BAns) (st' : BSt) (hs : ∀ s ∈ steps, SOK s) (hl : steps.length = m) (hm : m ≤ 10) (e : mScript 0 steps = (an, some st')) (hn : an.length = n) (hn1 : 0 < n)
    (v : Value) (w : World) (hown : w.ownsRow 0 28 11 v m (steps.flatMap bsC)) : Calls Tryz.prog 14 #[v] w (DfRes n (strOf st'.m.bytes) w) := by
  subst hl
  refine (buildRun_calls v steps w hown (by omega) (safe_all _ _ _ hs)).mono ?_
  rintro e' w' ⟨r, rfl, hown', hf⟩
  rw [e] at hown' ⊢
  rw [show (an, some st').1 = an from rfl, hn] at hown'
  obtain ⟨g, cap, rfl, _, _⟩ := own_slice1 hown' hn1
  exact ⟨g, cap, rfl, hf⟩
theorem Run_df2 (steps : List BS) (m o : Nat) (an : List BAns) (x : BAns) (st' : BSt) (hs : ∀ s ∈ steps, SOK s) (hl : steps.length = m) (hm : m ≤ 10) (e : mScript 0 steps = (an, some st')) (hn : an.length = 3) (hx : an[2]? = some x) (hxo : x.r = o)
    (v : Value) (w : World) (hown : w.ownsRow 0 28 11 v m (steps.flatMap bsC)) : Calls Tryz.prog 14 #[v] w (DfRes2 o (strOf st'.m.bytes) w) := by
  subst hl
  refine (buildRun_calls v steps w hown (by omega) (safe_all _ _ _ hs)).mono ?_
  rintro e' w' ⟨r, rfl, hown', hf⟩
  rw [e] at hown' ⊢
  rw [show (an, some st').1 = an from rfl] at hown'
  have h3 := hown'
  rw [hn] at h3
  obtain ⟨g, cap, rfl, _, hgl⟩ := own_slice1 h3 (by omega)
  obtain ⟨g', cap', hv, _, hcs⟩ := own_cellsZ (f := bansC) (z := 4) (fun _ => rfl) hown' (i := 2) (by omega)
  injection hv with e1 _ _
  injection e1 with e1
  injection e1 with e1
  subst e1
  have c := hcs 0 (by omega)
  obtain ⟨l2, e2⟩ := List.getElem?_eq_some_iff.1 hx
  rw [e2] at c
  refine ⟨g, cap, rfl, hf, hgl, ?_⟩
  rw [← hxo]; exact c

set_option maxRecDepth 20000 in
set_option maxHeartbeats 4000000 in
theorem Default_same (k n els slot : Nat) (hk : k ≤ 10) (hn : n < 2 ^ 64) (he : els < 2 ^ 64) (hs : slot < 256) (hr : Right (k : Int) n) (hr2 : Right (k : Int) els) (h1 : rightB k n = true) (h2 : rightB k els = true) (hsame : sameNum k n els = true) (w : World) :
    Calls Tryz.prog 3 #[.int .u8 k, .int .u64 n, .int .u64 els, .int .u8 slot] w fun e w' => e = .returned (.bool true) ∧ Below w.heap.size w w' := by
  have HSR1 := Lib.hid (fun w => ScalarRight_calls k n (by omega) hn w)
  have HSR2 := Lib.hid (fun w => ScalarRight_calls k els (by omega) he w)
  rw [h1] at HSR1
  rw [h2] at HSR2
  have hsl : slot % 60 < 60 := Nat.mod_lt _ (by omega)
  obtain ⟨s0, s1, s2, s3, s4⟩ := df_sok k n els (slot % 60) hsl hn he hr hr2
  obtain ⟨aA, sA, eA, bA, lA⟩ := df_same k (slot % 60) n els hsame
  obtain ⟨aB, sB, eB, bB, lB⟩ := df_bare
  obtain ⟨_, _, _, _, _, aC, sC, eC, _, lC⟩ := df_diff k (slot % 60) n els hsl hr
  have hcase : (k = 9 ∨ k = 10) ∨ (n = els) := by
    unfold sameNum at hsame
    split at hsame
    · left; left; omega
    · split at hsame
      · left; right; omega
      · right; simpa using hsame
  have HO1 := Lib.hid (fun w : World => own_lit (w := w) (t := 28) (z := 11) (n := 1) (xs := [dfP k (slot % 60) n els].flatMap bsC) rfl (by omega))
  have HO2 := Lib.hid (fun w : World => own_lit (w := w) (t := 28) (z := 11) (n := 2) (xs := [dfA k n, dfB (slot % 60)].flatMap bsC) rfl (by omega))
  obtain ⟨q, hq⟩ : ∃ q, q = slot % 60 := ⟨_, rfl⟩
  rw [← hq] at hsl s2 s4 eA eC HO1 HO2
  have hqi : (slot : Int) % 60 = (q : Int) := by omega
  have HSS := Lib.hid (And.intro s0 (And.intro s1 (And.intro s2 (And.intro s3 s4))))
  have HA := Lib.hid eA
  have HLA := Lib.hid lA
  have HB := Lib.hid eB
  have HLB := Lib.hid lB
  have HbA := Lib.hid bA
  have HbB := Lib.hid bB
  have HC := Lib.hid eC
  have HLC := Lib.hid lC
  clear s0 s1 s2 s3 s4 eA eB eC lA lB lC bA bB hq hsame
  go_enter Tryz.func3, Tryz.ntmps3
  go_wp2_with fail
  refine (HSR1.out _).mono ?_
  rintro e w' ⟨rfl, rfl⟩
  go_wp2_with fail
  refine (HSR2.out _).mono ?_
  rintro e w' ⟨rfl, rfl⟩
  go_wp2_with fail
  refine (dfL_some _ 1 1 [dfP k q n els] _ (HO1.out w') (by omega)).mono ?_
  rintro e w1 ⟨r1, rfl, hown1, hf1⟩
  have HF1 := Lib.hid (((Fr.refl (fun _ => False) w').alloc _).trans hf1)
  clear hf1
  go_wp2_with fail
  refine (Run_df (dfStart :: ([dfP k q n els] ++ [dfEnd])) 3 3 aA sA (by simp only [List.cons_append, List.nil_append, List.mem_cons, List.not_mem_nil, or_false, forall_eq_or_imp, forall_eq]; exact ⟨HSS.out.1, HSS.out.2.2.1, HSS.out.2.1⟩) rfl (by omega) HA.out HLA.out (by omega) r1 w1 hown1).mono ?_
  rintro e w2 ⟨g2, cap2, rfl, hf2⟩
  have HF2 := Lib.hid (HF1.out.trans hf2)
  clear hf2 hown1 HF1
  go_wp2_with fail
  refine (dfL_nil _).mono ?_
  rintro e w3 ⟨r3, rfl, hown3, hf3⟩
  have HF3 := Lib.hid (HF2.out.trans hf3)
  clear hf3 HF2
  go_wp2_with fail
  refine (Run_df (dfStart :: ([] ++ [dfEnd])) 2 2 aB sB (by simp only [List.cons_append, List.nil_append, List.mem_cons, List.not_mem_nil, or_false, forall_eq_or_imp, forall_eq]; exact ⟨HSS.out.1, HSS.out.2.1⟩) rfl (by omega) HB.out HLB.out (by omega) r3 w3 hown3).mono ?_
  rintro e w4 ⟨g4, cap4, rfl, hf4⟩
  have HF4 := Lib.hid (HF3.out.trans hf4)
  clear hf4 hown3 HF3
  go_wp2_with fail
  refine (dfL_some _ 2 2 [dfA k n, dfB q] _ (HO2.out w4) (by omega)).mono ?_
  rintro e w5 ⟨r5, rfl, hown5, hf5⟩
  have HF5 := Lib.hid ((HF4.out.alloc _).trans hf5)
  clear hf5 HF4
  go_wp2_with fail
  refine (Run_df (dfStart :: ([dfA k n, dfB q] ++ [dfEnd])) 4 4 aC sC (by simp only [List.cons_append, List.nil_append, List.mem_cons, List.not_mem_nil, or_false, forall_eq_or_imp, forall_eq]; exact ⟨HSS.out.1, HSS.out.2.2.2.1, HSS.out.2.2.2.2, HSS.out.2.1⟩) rfl (by omega) HC.out HLC.out (by omega) r5 w5 hown5).mono ?_
  rintro e w6 ⟨g6, cap6, rfl, hf6⟩
  have HF6 := Lib.hid (HF5.out.trans hf6)
  clear hf6 hown5 HF5
  go_wp2_with fail
  refine (buildAwake_calls _).mono ?_
  rintro e w7 ⟨rfl, hf7⟩
  have HF7 := Lib.hid (HF6.out.trans hf7)
  clear hf7 HF6
  rw [HbA.out, HbB.out]
  go_wp2_with fail
  all_goals
    go_ret
    first
      | exact ⟨rfl, Fr0.below HF7.out⟩
      | exact ⟨ret_bool (by rcases hcase with (h | h) | h <;> simp [h]), Fr0.below HF7.out⟩

set_option maxRecDepth 20000 in
set_option maxHeartbeats 4000000 in
theorem Default_diff (k n els slot : Nat) (hk : k ≤ 10) (hn : n < 2 ^ 64) (he : els < 2 ^ 64) (hs : slot < 256) (hr : Right (k : Int) n) (hr2 : Right (k : Int) els) (h1 : rightB k n = true) (h2 : rightB k els = true) (hsame : sameNum k n els = false) (w : World) :
    Calls Tryz.prog 3 #[.int .u8 k, .int .u64 n, .int .u64 els, .int .u8 slot] w fun e w' => e = .returned (.bool true) ∧ Below w.heap.size w w' := by
  have HSR1 := Lib.hid (fun w => ScalarRight_calls k n (by omega) hn w)
  have HSR2 := Lib.hid (fun w => ScalarRight_calls k els (by omega) he w)
  rw [h1] at HSR1
  rw [h2] at HSR2
  have hsl : slot % 60 < 60 := Nat.mod_lt _ (by omega)
  obtain ⟨s0, s1, s2, s3, s4⟩ := df_sok k n els (slot % 60) hsl hn he hr hr2
  obtain ⟨aB, sB, eB, bB, lB⟩ := df_bare
  obtain ⟨D, o, T, hD, hA, aC, sC, eC, bC, lC⟩ := df_diff k (slot % 60) n els hsl hr
  obtain ⟨aA, sA, eA, bA, lA, xA, hxA, hxo⟩ := hA hsame
  have hne : sA.m.bytes ≠ [4, 0, 4, 0, 4, 0, 0, 0] := by
    intro e
    have := hD.len
    have := hD.t
    have := hD.o1
    have h8 : D.length = 8 := by rw [← bA, e]; rfl
    omega
  have hcase : (k = 9 ∨ k = 10) ∨ (n ≠ els) := by
    unfold sameNum at hsame
    split at hsame
    · left; left; omega
    · split at hsame
      · left; right; omega
      · right; simpa using hsame
  have HO1 := Lib.hid (fun w : World => own_lit (w := w) (t := 28) (z := 11) (n := 1) (xs := [dfP k (slot % 60) n els].flatMap bsC) rfl (by omega))
  have HO2 := Lib.hid (fun w : World => own_lit (w := w) (t := 28) (z := 11) (n := 2) (xs := [dfA k n, dfB (slot % 60)].flatMap bsC) rfl (by omega))
  have HRD := Lib.hid (hD.read hsl)
  obtain ⟨q, hq⟩ : ∃ q, q = slot % 60 := ⟨_, rfl⟩
  rw [← hq] at hsl s2 s4 eA eC HO1 HO2 HRD
  have hqi : (slot : Int) % 60 = (q : Int) := by omega
  have HSS := Lib.hid (And.intro s0 (And.intro s1 (And.intro s2 (And.intro s3 s4))))
  have HA := Lib.hid eA
  have HLA := Lib.hid lA
  have HXA := Lib.hid (And.intro hxA hxo)
  have HB := Lib.hid eB
  have HLB := Lib.hid lB
  have HC := Lib.hid eC
  have HLC := Lib.hid lC
  have HbA := Lib.hid bA
  have HbB := Lib.hid bB
  have HbC := Lib.hid bC
  have hnes := run_eql_str _ _ hne
  rw [bA] at hnes
  have HNE := Lib.hid hnes
  have HZS := Lib.hid (fun w => ScalarSize_calls k (by omega) w)
  clear s0 s1 s2 s3 s4 eA eB eC lA lB lC bA bB bC hq hsame hA hD hxA hxo hne hnes
  go_enter Tryz.func3, Tryz.ntmps3
  go_wp2_with fail
  refine (HSR1.out _).mono ?_
  rintro e w' ⟨rfl, rfl⟩
  go_wp2_with fail
  refine (HSR2.out _).mono ?_
  rintro e w' ⟨rfl, rfl⟩
  go_wp2_with fail
  refine (dfL_some _ 1 1 [dfP k q n els] _ (HO1.out w') (by omega)).mono ?_
  rintro e w1 ⟨r1, rfl, hown1, hf1⟩
  have HF1 := Lib.hid (((Fr.refl (fun _ => False) w').alloc _).trans hf1)
  clear hf1
  go_wp2_with fail
  refine (Run_df2 (dfStart :: ([dfP k q n els] ++ [dfEnd])) 3 o aA xA sA (by simp only [List.cons_append, List.nil_append, List.mem_cons, List.not_mem_nil, or_false, forall_eq_or_imp, forall_eq]; exact ⟨HSS.out.1, HSS.out.2.2.1, HSS.out.2.1⟩) rfl (by omega) HA.out HLA.out HXA.out.1 HXA.out.2 r1 w1 hown1).mono ?_
  rintro e w2 ⟨g2, cap2, rfl, hf2, hgl2, c2⟩
  have HF2 := Lib.hid (HF1.out.trans hf2)
  have HC2 := Lib.hid (And.intro hgl2 c2)
  clear hf2 hown1 HF1 hgl2 c2
  go_wp2_with fail
  refine (dfL_nil _).mono ?_
  rintro e w3 ⟨r3, rfl, hown3, hf3⟩
  have HF3 := Lib.hid (hf3)
  clear hf3
  go_wp2_with fail
  refine (Run_df (dfStart :: ([] ++ [dfEnd])) 2 2 aB sB (by simp only [List.cons_append, List.nil_append, List.mem_cons, List.not_mem_nil, or_false, forall_eq_or_imp, forall_eq]; exact ⟨HSS.out.1, HSS.out.2.1⟩) rfl (by omega) HB.out HLB.out (by omega) r3 w3 hown3).mono ?_
  rintro e w4 ⟨g4, cap4, rfl, hf4⟩
  have HF4 := Lib.hid (HF3.out.trans hf4)
  clear hf4 hown3 HF3
  go_wp2_with fail
  refine (dfL_some _ 2 2 [dfA k n, dfB q] _ (HO2.out w4) (by omega)).mono ?_
  rintro e w5 ⟨r5, rfl, hown5, hf5⟩
  have HF5 := Lib.hid ((HF4.out.alloc _).trans hf5)
  clear hf5 HF4
  go_wp2_with fail
  refine (Run_df (dfStart :: ([dfA k n, dfB q] ++ [dfEnd])) 4 4 aC sC (by simp only [List.cons_append, List.nil_append, List.mem_cons, List.not_mem_nil, or_false, forall_eq_or_imp, forall_eq]; exact ⟨HSS.out.1, HSS.out.2.2.2.1, HSS.out.2.2.2.2, HSS.out.2.1⟩) rfl (by omega) HC.out HLC.out (by omega) r5 w5 hown5).mono ?_
  rintro e w6 ⟨g6, cap6, rfl, hf6⟩
  have HF6 := Lib.hid (HF5.out.trans hf6)
  clear hf6 hown5 HF5
  go_wp2_with fail
  refine (buildAwake_calls _).mono ?_
  rintro e w7 ⟨rfl, hf7⟩
  have hf27 := HF6.out.trans hf7
  have d8 : w7.cell? ⟨g2, 8, none⟩ = some (.int .u32 (o : Nat)) := (Fr.cell hf27 (p := ⟨g2, 8, none⟩) HC2.out.1 (fun x => x)).trans HC2.out.2
  have HF7 := Lib.hid (HF2.out.trans hf27)
  clear hf7 HF6 HF2 hf27 HC2
  rw [HbA.out, HbB.out, HbC.out]
  have hs1 := HNE.out
  obtain ⟨DB, hDB⟩ : ∃ DB, DB = strOf D := ⟨_, rfl⟩
  rw [← hDB] at HRD hs1 ⊢
  obtain ⟨N, hN⟩ : ∃ N, N = T + o := ⟨_, rfl⟩
  obtain ⟨R, hR⟩ : ∃ R, R = o - numSize k := ⟨_, rfl⟩
  obtain ⟨z, hz⟩ : ∃ z, z = numSize (k : Int) := ⟨_, rfl⟩
  rw [← hN, ← hR, ← hz] at HRD
  rw [← hz] at HZS
  have hsz := HRD.out.size
  have hNT := HRD.out.hN
  have hT := HRD.out.t
  have hRz := HRD.out.hR
  have ho2 := HRD.out.o2
  have hz4 := HRD.out.z4
  have hT1 : 6 ≤ T ∧ T ≤ 124 := by omega
  have hN1 : N ≤ 136 := by omega
  have hRN : R + z + T = N := by omega
  have hz8 : z ≤ 8 := by omega
  have hNo : (N : Int) - (o : Int) = (T : Int) := by omega
  have hq6 : (T : Int) ≤ (N : Int) := by omega
  have hq7 : 6 + 2 * (q : Int) ≤ (N : Int) := by omega
  obtain ⟨x0, x1, x2, x3, hx, i0, i1, i2, i3⟩ := HRD.out.x
  obtain ⟨y0, y1, hy, j0, j1⟩ := HRD.out.y
  have i00 := HRD.out.first
  have hor := u32or4 x0 x1 x2 x3
  rw [hx] at hor
  have hoy := u32or2 y0 y1
  rw [hy] at hoy
  have b0 : (x0.toNat : Int) ≤ 255 := by have := x0.toNat_lt; omega
  have b1 : (x1.toNat : Int) ≤ 255 := by have := x1.toNat_lt; omega
  have b2 : (x2.toNat : Int) ≤ 255 := by have := x2.toNat_lt; omega
  have b3 : (x3.toNat : Int) ≤ 255 := by have := x3.toNat_lt; omega
  have b4 : (y0.toNat : Int) ≤ 255 := by have := y0.toNat_lt; omega
  have b5 : (y1.toNat : Int) ≤ 255 := by have := y1.toNat_lt; omega
  have hs2 := run_neq_str DB
  have HNT := Lib.hid hNT
  have HTT := Lib.hid hT
  have HRZ := Lib.hid hRz
  clear hDB hN hR hz hNT hT hRz hx hy HSR1 HSR2 HO1 HO2 HSS HA HLA HXA HB HLB HC HLC HbA HbB HbC HNE
  go_wp2_with fail
  go_quiet (fail)
  go_wp2_with fail
  go_quiet (fail)
  go_wp2_with fail
  refine (HZS.out _).mono ?_
  rintro e w8 ⟨rfl, rfl⟩
  have hnum := HRD.out.num
  have HNUM := Lib.hid hnum
  clear hnum i0 i1 i2 i3 j0 j1 hor hoy
  go_wp2_with fail
  have hTR : (T : Int) + (R : Int) + (z : Int) = (N : Int) := by omega
  have HTR := Lib.hid hTR
  clear hTR
  go_loopw [176] (fun i wr => ∃ j : Nat, j ≤ z ∧ i = .int .i64 j ∧ Fr0 w' wr) (fun i _ => z - (intOf i).toNat)
  case atStart => exact ⟨0, Nat.zero_le _, rfl, HF7.out.drewN _⟩
  case round =>
    obtain ⟨j, hj, rfl, hf3⟩ := hrel
    have HF3 := Lib.hid hf3
    clear hf3 HF7
    by_cases hlt : j < z
    · have ij := fun w => HNUM.out j hlt w
      have hn1 : (T : Int) + (R : Int) + (j : Int) < (N : Int) := by have := HTR.out; omega
      have hd : decide ((N : Int) ≤ (T : Int) + (R : Int) + (j : Int)) = false := by rw [decide_eq_false_iff_not]; omega
      have hw1 : IntKind.i64.wrap ((T : Int) + (R : Int) + (j : Int)) = (T : Int) + (R : Int) + (j : Int) := IntWalk.i64_in _ ⟨by omega, by omega⟩
      go_wp2_with fail
      go_quiet (fail)
      go_wp2_with fail
      exact ⟨⟨j + 1, by omega, by go_num, HF3.out.drewN _⟩, by simp [intOf]; omega⟩
    · have hje : j = z := by omega
      subst hje
      go_wp2_with fail
      all_goals
        go_ret
        exact ⟨rfl, Fr0.below HF3.out⟩

set_option maxRecDepth 20000 in
set_option maxHeartbeats 4000000 in
theorem FnBuildDefault_walk (kind n els slot : Int) (w0 : (Lit.int .u8 kind).wf = true) (w1 : (Lit.int .u64 n).wf = true) (w2 : (Lit.int .u64 els).wf = true) (w3 : (Lit.int .u8 slot).wf = true) (w : World) :
    Calls Tryz.prog 3 #[.int .u8 kind, .int .u64 n, .int .u64 els, .int .u8 slot] w fun e w' => e = .returned (.bool true) ∧ Below w.heap.size w w' := by
  obtain ⟨k, rfl, hk⟩ : ∃ k : Nat, kind = k ∧ k < 256 := by
    have := bounds_u8 w0
    exact ⟨kind.toNat, by omega, by omega⟩
  obtain ⟨n, rfl, hn⟩ : ∃ m : Nat, n = m ∧ m < 2 ^ 64 := by
    have := bounds_u64 w1
    exact ⟨n.toNat, by omega, by omega⟩
  obtain ⟨els, rfl, he⟩ : ∃ m : Nat, els = m ∧ m < 2 ^ 64 := by
    have := bounds_u64 w2
    exact ⟨els.toNat, by omega, by omega⟩
  obtain ⟨slot, rfl, hs⟩ : ∃ m : Nat, slot = m ∧ m < 256 := by
    have := bounds_u8 w3
    exact ⟨slot.toNat, by omega, by omega⟩
  clear w0 w1 w2 w3
  have HSR1 := Lib.hid (fun w => ScalarRight_calls k n hk hn w)
  have HSR2 := Lib.hid (fun w => ScalarRight_calls k els hk he w)
  cases h1 : rightB k n with
  | false =>
    rw [h1] at HSR1
    clear h1
    go_enter Tryz.func3, Tryz.ntmps3
    go_wp2_with fail
    refine (HSR1.out _).mono ?_
    rintro e w' ⟨rfl, rfl⟩
    go_wp2_with fail
    refine (buildAwake_calls _).mono ?_
    rintro e w' ⟨rfl, hf⟩
    go_wp2_with fail
    go_ret
    exact ⟨rfl, Fr0.below hf⟩
  | true =>
    cases h2 : rightB k els with
    | false =>
      rw [h1] at HSR1
      rw [h2] at HSR2
      clear h1 h2
      go_enter Tryz.func3, Tryz.ntmps3
      go_wp2_with fail
      refine (HSR1.out _).mono ?_
      rintro e w' ⟨rfl, rfl⟩
      go_wp2_with fail
      refine (HSR2.out _).mono ?_
      rintro e w' ⟨rfl, rfl⟩
      go_wp2_with fail
      refine (buildAwake_calls _).mono ?_
      rintro e w' ⟨rfl, hf⟩
      go_wp2_with fail
      go_ret
      exact ⟨rfl, Fr0.below hf⟩
    | true =>
      have hr := (rightB_iff k n).1 h1
      have hr2 := (rightB_iff k els).1 h2
      cases hsm : sameNum k n els with
      | true => exact Default_same k n els slot (by have := hr.2.1; omega) hn he hs hr hr2 h1 h2 hsm w
      | false => exact Default_diff k n els slot (by have := hr.2.1; omega) hn he hs hr hr2 h1 h2 hsm w
end Go.Proofs.YtfplgggepoaajaaGreat
