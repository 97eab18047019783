/- impl.TableRun: the answers of all steps, one behind the other, and the bytes behind all. -/
import Derived.Test.YtjfgippolckaeaaGreatTabRun1
import Derived.Laws.AppendOwn
import Derived.OwnWalk
namespace Go.Proofs.YtjfgippolckaeaaGreat
open Go.RowKit
set_option linter.unusedVariables false
set_option linter.unusedSimpArgs false

def stepSt (pos : Nat) (st : List Ans × List UInt8) (s : Stp) : List Ans × List UInt8 :=
  (st.1 ++ [(mAns st.2 pos s.op s.k s.off s.num).1], (mAns st.2 pos s.op s.k s.off s.num).2)
/-- All steps. -/
def mRun (pos : Nat) (l : List UInt8) (steps : List Stp) : List Ans × List UInt8 := steps.foldl (stepSt pos) ([], l)
theorem mRun_take (pos : Nat) (l : List UInt8) (steps : List Stp) (i : Nat) (h : i < steps.length) : mRun pos l (steps.take (i + 1)) = stepSt pos (mRun pos l (steps.take i)) steps[i] := by
  unfold mRun
  rw [List.take_succ_eq_append_getElem h, List.foldl_append]
  rfl
theorem mRun_len (pos : Nat) (l : List UInt8) (steps : List Stp) (i : Nat) (h : i ≤ steps.length) : (mRun pos l (steps.take i)).1.length = i := by
  induction i with
  | zero => rfl
  | succ i ih =>
    rw [mRun_take pos l steps i (by omega)]
    simp only [stepSt, List.length_append, List.length_singleton]
    rw [ih (by omega)]

theorem flat_length {α : Type} (f : α → List Value) (hf : ∀ x, (f x).length = 4) (l : List α) : (l.flatMap f).length = l.length * 4 := by
  induction l with
  | nil => rfl
  | cons x r ih => simp [hf, ih]; omega
theorem flat_get {α : Type} (f : α → List Value) (hf : ∀ x, (f x).length = 4) : ∀ (l : List α) (i j : Nat) (hi : i < l.length) (hj : j < 4), (l.flatMap f)[i * 4 + j]? = (f l[i])[j]?
  | [], _, _, hi, _ => by simp at hi
  | x :: r, 0, j, _, hj => by simp [List.getElem?_append, hf, hj]
  | x :: r, i + 1, j, hi, hj => by
    have ih := flat_get f hf r i j (by simpa using hi) hj
    rw [List.flatMap_cons, List.getElem?_append_right (by rw [hf]; omega), hf, show (i + 1) * 4 + j - 4 = i * 4 + j by omega, ih]
    simp

/-- The cells of the i-th of some values of four cells each. -/
theorem own_cells {w : World} {base : Nat} {e : TypeId} {v : Value} {α : Type} {f : α → List Value} (hf : ∀ x, (f x).length = 4) {l : List α} (h : w.ownsRow base e 4 v l.length (l.flatMap f)) {i : Nat} (hi : i < l.length) :
    ∃ g cap, v = .slice (some ⟨g, 0, none⟩) l.length cap ∧ g < w.heap.size ∧ ∀ j, j < 4 → w.cell? ⟨g, i * 4 + j, none⟩ = (f l[i])[j]? := by
  rcases h.2 with ⟨_, hn⟩ | ⟨g, cap, cur, rfl, hb, hg, h1, h2, h3, h4⟩
  · omega
  · refine ⟨g, cap, rfl, lt_of_block hg, fun j hj => ?_⟩
    rw [cell_of hg, ← flat_get f hf l i j hi hj, ← h4, List.getElem?_take, if_pos (by omega)]
    simp

theorem infoAns3 : (Tryz.prog.info? 49).map (fun i => (i.zero, i.size, i.bytes)) = some (some (.agg #[.int .u64 0, .string ⟨#[]⟩, .bool false, .bool false]), 4, 32) := by kernel_rfl

theorem Fr0.own {w w' : World} {base : Nat} {e : TypeId} {size n : Nat} {v : Value} {xs : List Value} (h : w.ownsRow base e size v n xs) (hf : Fr0 w w') : w'.ownsRow base e size v n xs :=
  h.kept ⟨hf.os, hf.tape, hf.output, hf.size, fun k hk _ => hf.block k hk (fun x => x)⟩ (row := none) (by cases hv : v.ownBlock <;> simp)
theorem Fr.own {S : Nat → Prop} {w w' : World} {base : Nat} {e : TypeId} {size n : Nat} {v : Value} {xs : List Value} (h : w.ownsRow base e size v n xs) (hf : Fr S w w') (hs : ∀ k, base ≤ k → ¬ S k) : w'.ownsRow base e size v n xs := by
  refine ⟨h.1, ?_⟩
  rcases h.2 with hn | ⟨g, cap, cur, rfl, hb, hgg, rest⟩
  · exact .inl hn
  · refine .inr ⟨g, cap, cur, rfl, hb, ?_, rest⟩
    rw [hf.block g (lt_of_block hgg) (hs g hb)]
    exact hgg

theorem ansCell (wr : World) (x0 x1 x2 x3 : Value) : ∀ j u, [x0, x1, x2, x3][j]? = some u → (wr.alloc (.cells #[x0, x1, x2, x3] 49)).cell? ((⟨wr.heap.size, 0, none⟩ : Addr).add j) = some u := by
  intro j u hu
  have hadd : (⟨wr.heap.size, 0, none⟩ : Addr).add j = ⟨wr.heap.size, j, none⟩ := by unfold Addr.add; split <;> simp_all
  rw [hadd, cell_of (heap_alloc_new wr _)]
  simpa using hu

/-- What is there when the loop begins. -/
theorem startTab (s : ByteArray) (pos : Nat) (w : World) (hs : s.size ≤ 1000000000) (hpos : pos < 4294967296) :
    Tab (((w.alloc (Obj.cells (cellsOf s.data.toList).toArray 5)).alloc (Obj.cells #[Value.slice (some { block := w.heap.size, off := 0 }) s.size s.size, Value.int IntKind.u32 pos] 76)).alloc (Obj.cells #[Value.pointer (some { block := w.heap.size + 1, off := 0 })] 72))
      (w.heap.size + 1) w.heap.size s.data.toList pos := by
  have hsz : s.data.toList.length = s.size := by simp
  have hb : (((w.alloc (Obj.cells (cellsOf s.data.toList).toArray 5)).alloc (Obj.cells #[Value.slice (some { block := w.heap.size, off := 0 }) s.size s.size, Value.int IntKind.u32 pos] 76)).alloc (Obj.cells #[Value.pointer (some { block := w.heap.size + 1, off := 0 })] 72)).heap[w.heap.size + 1]? = some (Obj.cells #[Value.slice (some { block := w.heap.size, off := 0 }) s.size s.size, Value.int IntKind.u32 pos] 76) := by
    simp only [heap_alloc_get, size_alloc]
    rw [if_neg (by omega), if_pos trivial]
  refine ⟨?_, ?_, ?_, by omega, hpos⟩
  · rw [cell_of hb, hsz]; rfl
  · rw [cell_of hb]; rfl
  · simp only [heap_alloc_get, size_alloc]
    rw [if_neg (by omega), if_neg (by omega), if_pos trivial]
theorem startV (s : ByteArray) (pos : Nat) (w : World) :
    (((w.alloc (Obj.cells (cellsOf s.data.toList).toArray 5)).alloc (Obj.cells #[Value.slice (some { block := w.heap.size, off := 0 }) s.size s.size, Value.int IntKind.u32 pos] 76)).alloc (Obj.cells #[Value.pointer (some { block := w.heap.size + 1, off := 0 })] 72)).cell? ⟨w.heap.size + 2, 0, none⟩ = some (.pointer (some ⟨w.heap.size + 1, 0, none⟩)) := by
  rw [cell_of (c := #[Value.pointer (some { block := w.heap.size + 1, off := 0 })]) (t := 72) (fr := (0, 0)) (by simp only [heap_alloc_get, size_alloc]; rw [if_pos trivial])]
  rfl

theorem ansCell' (wr : World) (x0 x1 x2 x3 : Value) (n : Nat) (hn : wr.heap.size = n) : ∀ j u, [x0, x1, x2, x3][j]? = some u → (wr.alloc (.cells #[x0, x1, x2, x3] 49)).cell? ((⟨n, 0, none⟩ : Addr).add j) = some u := by
  subst hn; exact ansCell wr x0 x1 x2 x3
theorem grown_fr {w w3 : World} {r : Option Nat} (hg : w.grownBy w3 r) : Fr (fun k => some k = r) w w3 := ⟨hg.os, hg.tape, hg.output, hg.size, fun k hk hn => hg.block k hk hn⟩

/-- What holds ahead of each round. -/
def Rnd (w : World) (s : ByteArray) (pos : Nat) (steps : List Stp) (i : Nat) (av : Value) (wr : World) : Prop :=
  w.heap.size + 3 ≤ wr.heap.size ∧ Fr0 w wr ∧ Tab wr (w.heap.size + 1) w.heap.size (mRun pos s.data.toList (steps.take i)).2 pos ∧
      wr.cell? ⟨w.heap.size + 2, 0, none⟩ = some (.pointer (some ⟨w.heap.size + 1, 0, none⟩)) ∧ wr.ownsRow (w.heap.size + 3) 49 4 av i ((mRun pos s.data.toList (steps.take i)).1.flatMap ansC)

theorem rnd_own {w wr w' : World} {s : ByteArray} {pos i : Nat} {steps : List Stp} {av : Value} (h : Rnd w s pos steps i av wr) (hf : Fr (fun x => x = w.heap.size) wr w') :
    w'.ownsRow (w.heap.size + 3) 49 4 av i ((mRun pos s.data.toList (steps.take i)).1.flatMap ansC) := Fr.own h.2.2.2.2 hf (fun k hk e => by omega)

theorem rnd_step {w wr w' w3 : World} {s : ByteArray} {pos i : Nat} {steps : List Stp} {av v3 : Value} {o : Obj} (h : Rnd w s pos steps i av wr) (hi : i < steps.length) (hf : Fr (fun x => x = w.heap.size) wr w')
    (hT' : Tab w' (w.heap.size + 1) w.heap.size (mAns (mRun pos s.data.toList (steps.take i)).2 pos steps[i].op steps[i].k steps[i].off steps[i].num).2 pos)
    (hg : (w'.alloc o).grownBy w3 av.ownBlock) (hown : w3.ownsRow (w.heap.size + 3) 49 4 v3 (i + 1) ((mRun pos s.data.toList (steps.take i)).1.flatMap ansC ++ ansC (mAns (mRun pos s.data.toList (steps.take i)).2 pos steps[i].op steps[i].k steps[i].off steps[i].num).1)) :
    Rnd w s pos steps (i + 1) v3 w3 := by
  obtain ⟨h1, h2, h3, h4, h5⟩ := h
  have ho := h5.lt
  have hsz := hf.size
  have hgf : Fr (fun k => some k = av.ownBlock) w' w3 := Fr.trans2 (S := fun k => some k = av.ownBlock) ((Fr.refl _ w').alloc o) (grown_fr hg) (fun _ _ e => e)
  have hb : ∀ k, k < w.heap.size + 3 → ¬ some k = av.ownBlock := fun k hk e => by have := (ho k e.symm).1; omega
  have hsz2 := hgf.size
  refine ⟨by omega, ?_, ?_, ?_, ?_⟩
  · exact (h2.trans2 (S := fun _ => False) hf (fun k hk e => absurd e (by omega))).trans2 hgf (fun k hk e => hb k (by omega) e)
  · rw [mRun_take pos _ steps i hi]
    exact hT'.fr2 hgf (by omega) (hb _ (by omega)) (hb _ (by omega))
  · rw [Fr.cell hgf (p := ⟨w.heap.size + 2, 0, none⟩) (by show w.heap.size + 2 < _; omega) (hb _ (by show w.heap.size + 2 < _; omega)), Fr.cell hf (p := ⟨w.heap.size + 2, 0, none⟩) (by show w.heap.size + 2 < _; omega) (by show ¬ (w.heap.size + 2 = w.heap.size); omega)]
    exact h4
  · rw [mRun_take pos _ steps i hi]
    show World.ownsRow _ _ _ _ _ _ (List.flatMap ansC (_ ++ [_]))
    rw [List.flatMap_append]
    simpa using hown

set_option maxHeartbeats 6000000 in
theorem TableRun_calls (s : ByteArray) (pos : Nat) (v : Value) (steps : List Stp) (w : World) (hs : s.size ≤ 1000000000) (hpos : pos < 4294967296) (hown : w.ownsRow 0 77 4 v steps.length (steps.flatMap stepC)) (hlen : steps.length ≤ 1000)
    (hwf : ∀ x ∈ steps, x.num < 2 ^ 64) :
    Calls Tryz.prog 14 #[.string s, .int .u32 pos, v] w fun e w' => ∃ r, e = .returned (.tuple #[r, .string (strOf (mRun pos s.data.toList steps).2)]) ∧
      w'.ownsRow w.heap.size 49 4 r (mRun pos s.data.toList steps).1.length ((mRun pos s.data.toList steps).1.flatMap ansC) ∧ Fr0 w w' := by
  obtain ⟨i0, hi, hz0, hz1, hz2⟩ := info_parts infoAns3
  have hmf : ∀ (fn : Fn) (first cap : Array Value) (w : World), (Instr.makeFunc fn first cap).run Tryz.prog w = .ok (.func fn first cap) w := fun _ _ _ _ => rfl
  -- what is there when the loop begins
  have hvs : ∃ ao cap, v = .slice ao steps.length cap := by
    rcases hown.2 with ⟨rfl, h⟩ | ⟨g, cap, _, rfl, _⟩
    · exact ⟨none, 0, by rw [h]⟩
    · exact ⟨_, cap, rfl⟩
  obtain ⟨ao, cap, rfl⟩ := hvs
  have HOWN := Lib.hid hown
  clear hown
  go_enter Tryz.func14, Tryz.ntmps14
  go_wp2_with (go_at_call 25; refine (slice_calls _ _ hs).mono ?_; rintro e w' ⟨rfl, rfl⟩)
  go_loopw [6, 19] (fun av iv wr => ∃ i : Nat, i ≤ steps.length ∧ iv = .int .i64 i ∧ Rnd w s pos steps i av wr)
    (fun _ iv _ => steps.length - (intOf iv).toNat)
  case atStart =>
    exact ⟨0, Nat.zero_le _, rfl, by simp, (((Fr.refl _ w).alloc _).alloc _).alloc _, startTab s pos w hs hpos, startV s pos w, World.ownsRow_nil _ _ _ _⟩
  case round =>
    obtain ⟨i, hi1, rfl, hR⟩ := hrel
    have hsz := hR.1
    have HR := Lib.hid hR
    by_cases hlt : i < steps.length
    · obtain ⟨g, cap', hv, hgl, hcs⟩ := own_cells (f := stepC) (fun _ => rfl) (Fr.own HOWN.out hR.2.1 (fun _ _ x => x)) hlt
      injection hv with hv1 hv2 hv3
      subst hv1 hv3
      clear hv2
      have hn : steps[i].num < 2 ^ 64 := hwf _ (List.getElem_mem hlt)
      have hV := hR.2.2.2.1
      have hT := hR.2.2.1
      have hVl : w.heap.size + 2 < wr.heap.size := by omega
      obtain ⟨st, hst⟩ : ∃ st, st = steps[i] := ⟨_, rfl⟩
      rw [← hst] at hcs hn
      have HST := Lib.hid hst
      clear hst
      have s0 : wr.cell? ⟨g, i * 4, none⟩ = some (.int .u8 st.op) := hcs 0 (by omega)
      have s1 : wr.cell? ⟨g, i * 4 + 1, none⟩ = some (.int .u8 st.k) := hcs 1 (by omega)
      have s2 : wr.cell? ⟨g, i * 4 + 2, none⟩ = some (.int .u32 st.off) := hcs 2 (by omega)
      have s3 : wr.cell? ⟨g, i * 4 + 3, none⟩ = some (.int .u64 st.num) := hcs 3 (by omega)
      -- the world in which the function value is called
      have hf2 : Fr0 wr ((wr.alloc (.cells (stepC st).toArray 77)).alloc (.cells #[.int .u64 0, .string ⟨#[]⟩, .bool false, .bool false] 49)) := ((Fr.refl _ wr).alloc _).alloc _
      have hS2 : ((wr.alloc (.cells (stepC st).toArray 77)).alloc (.cells #[.int .u64 0, .string ⟨#[]⟩, .bool false, .bool false] 49)).heap[wr.heap.size]? = some (.cells (stepC st).toArray 77) := by
        simp only [heap_alloc_get, size_alloc]; rw [if_neg (by omega), if_pos trivial]
      have hA2 : ((wr.alloc (.cells (stepC st).toArray 77)).alloc (.cells #[.int .u64 0, .string ⟨#[]⟩, .bool false, .bool false] 49)).heap[wr.heap.size + 1]? = some (.cells #[.int .u64 0, .string ⟨#[]⟩, .bool false, .bool false] 49) := by
        simp only [heap_alloc_get, size_alloc]; rw [if_pos trivial]
      have hT2 := hT.fr hf2 (by omega)
      have hV2 := (Fr.cell hf2 (p := ⟨w.heap.size + 2, 0, none⟩) hVl (fun x => x)).trans hV
      have hn1 : (∃ a m, mStep (mRun pos s.data.toList (steps.take i)).2 pos st.op st.k st.off st.num = some (a, m)) ∨ mStep (mRun pos s.data.toList (steps.take i)).2 pos st.op st.k st.off st.num = none := by
        cases mStep (mRun pos s.data.toList (steps.take i)).2 pos st.op st.k st.off st.num with
        | none => exact .inr rfl
        | some x => exact .inl ⟨x.1, x.2, rfl⟩
      have hsz2 : ((wr.alloc (.cells (stepC st).toArray 77)).alloc (.cells #[.int .u64 0, .string ⟨#[]⟩, .bool false, .bool false] 49)).heap.size = wr.heap.size + 2 := by simp
      rcases hn1 with ⟨a, m, hm⟩ | hm
      · have HC := Lib.hid (thrown_step_ok (w.heap.size + 1) w.heap.size (w.heap.size + 2) wr.heap.size (wr.heap.size + 1) pos st _ m a _ _ _ _ _ hT2 (by omega) hn hm (by omega) hV2 hS2 hA2 (by omega) (by omega))
        have hma : mAns (mRun pos s.data.toList (steps.take i)).2 pos st.op st.k st.off st.num = (a, m) := by rw [mAns, hm]; rfl
        rw [HST.out] at hma
        have HMA := Lib.hid hma
        have HF2 := Lib.hid hf2
        clear hma hT hV hT2 hV2 hS2 hA2 hcs hR hm hf2 hn hgl hVl hwf
        go_wp2_with fail
        refine HC.out.mono ?_
        rintro e w' ⟨rfl, hf, hT', hb⟩
        have c0 : w'.cell? ⟨wr.heap.size + 1, 0, none⟩ = some (.int .u64 a.num) := by rw [cell_of hb]; rfl
        have c1 : w'.cell? ⟨wr.heap.size + 1, 1, none⟩ = some (.string (strOf a.text)) := by rw [cell_of hb]; rfl
        have c2 : w'.cell? ⟨wr.heap.size + 1, 2, none⟩ = some (.bool a.done) := by rw [cell_of hb]; rfl
        have c3 : w'.cell? ⟨wr.heap.size + 1, 3, none⟩ = some (.bool a.pan) := by rw [cell_of hb]; rfl
        have hfw : Fr (fun x => x = w.heap.size) wr w' := Fr.trans2 (HF2.out.mono (fun _ _ x => x.elim)) hf (fun k hk h => by rcases h with h | h <;> omega)
        have hown := rnd_own HR.out hfw
        have HFW := Lib.hid hfw
        have HT' := Lib.hid hT'
        have hsw := hf.size
        have HSW : RowKit.Hid (wr.heap.size + 2 ≤ w'.heap.size) := Lib.hid (by omega)
        clear hf hT' hb hfw HF2 hsw
        go_wp2_with (at_builtin; refine wpList_append_own _ rfl (.tmp 26) (.tmp 28) 44 rfl (w.heap.size + 3) 49 i0 (.agg #[.int .u64 0, .string ⟨#[]⟩, .bool false, .bool false]) 4 32 Tryz.underlying44 hi hz0 hz1 hz2 rfl (by decide) _ _ _ rfl (hown.alloc _) ⟨w'.heap.size, 0, none⟩ 1 1 (ansC a) rfl rfl (ansCell _ _ _ _ _) (by intro u hu; simp [ansC] at hu; rcases hu with rfl | rfl | rfl | rfl <;> rfl) (by unfold maxLen; omega) (by omega) (by have := HSW.out; simp; omega) ?_; intro v3 w3 hown3 hgrow3 hnil3)
        go_roundw
        case rel =>
          have hma := HMA.out
          exact ⟨i + 1, by omega, by go_num, rnd_step HR.out hlt HFW.out (by rw [hma]; exact HT'.out) hgrow3 (by rw [hma]; exact hown3)⟩
        case measure => simp [intOf]; omega
      · have HC := Lib.hid (thrown_step_falls (w.heap.size + 1) w.heap.size (w.heap.size + 2) wr.heap.size (wr.heap.size + 1) pos st _ _ hT2 (by omega) hn hm (by omega) hV2 hS2)
        have hma : mAns (mRun pos s.data.toList (steps.take i)).2 pos st.op st.k st.off st.num = (Ans.dead, (mRun pos s.data.toList (steps.take i)).2) := by rw [mAns, hm]; rfl
        rw [HST.out] at hma
        have HMA := Lib.hid hma
        have HF2 := Lib.hid hf2
        have HA2 := Lib.hid hA2
        have HT2 := Lib.hid hT2
        have HS2 := Lib.hid hsz2
        clear hma hT hV hT2 hV2 hS2 hA2 hcs hR hm hf2 hn hgl hVl hwf hsz2
        go_wp2_with fail
        refine HC.out.mono ?_
        rintro e w' ⟨rfl, hf⟩
        have hb := (hf.block (wr.heap.size + 1) (by have := HS2.out; omega) (fun x => x)).trans HA2.out
        have c0 : w'.cell? ⟨wr.heap.size + 1, 0, none⟩ = some (.int .u64 0) := by rw [cell_of hb]; rfl
        have c1 : w'.cell? ⟨wr.heap.size + 1, 1, none⟩ = some (.string ⟨#[]⟩) := by rw [cell_of hb]; rfl
        have c2 : w'.cell? ⟨wr.heap.size + 1, 2, none⟩ = some (.bool false) := by rw [cell_of hb]; rfl
        have c3 : w'.cell? ⟨wr.heap.size + 1, 3, none⟩ = some (.bool false) := by rw [cell_of hb]; rfl
        have f0 := frozen_of hb 0
        have f1 := frozen_of hb 1
        have f2 := frozen_of hb 2
        have f3 := frozen_of hb 3
        have hfw0 : Fr (fun x => x = w.heap.size) wr w' := Fr.trans2 (HF2.out.mono (fun _ _ x => x.elim)) hf (fun k hk h => h.elim)
        have hnn : ∀ {p : Addr}, p.block = wr.heap.size + 1 → (p.block < wr.heap.size → p.block = w.heap.size) := fun {p} e h => absurd h (by omega)
        have hfw : Fr (fun x => x = w.heap.size) wr ((((w'.setCell ⟨wr.heap.size + 1, 0, none⟩ (.int .u64 0)).setCell ⟨wr.heap.size + 1, 1, none⟩ (.string ⟨#[]⟩)).setCell ⟨wr.heap.size + 1, 2, none⟩ (.bool false)).setCell ⟨wr.heap.size + 1, 3, none⟩ (.bool true)) :=
          (((hfw0.setCell (hnn rfl) _).setCell (hnn rfl) _).setCell (hnn rfl) _).setCell (hnn rfl) _
        have hown := rnd_own HR.out hfw
        have hsw := hf.size
        have hs2 := HS2.out
        have HFW := Lib.hid hfw
        have hTw := HT2.out.fr hf (by omega)
        have HT' := Lib.hid (tab_set (i := 3) (v := .bool true) (tab_set (i := 2) (v := .bool false) (tab_set (i := 1) (v := .string ⟨#[]⟩) (tab_set (i := 0) (v := .int .u64 0) hTw (H := wr.heap.size + 1) (by omega) (by omega)) (H := wr.heap.size + 1) (by omega) (by omega)) (H := wr.heap.size + 1) (by omega) (by omega)) (H := wr.heap.size + 1) (by omega) (by omega))
        have HSW : RowKit.Hid (wr.heap.size + 2 ≤ w'.heap.size) := Lib.hid (by omega)
        clear hf hb hfw HF2 hsw hTw hnn hfw0 hs2 HS2 HA2 HT2
        go_wp2_with (at_builtin; refine wpList_append_own _ rfl (.tmp 26) (.tmp 28) 44 rfl (w.heap.size + 3) 49 i0 (.agg #[.int .u64 0, .string ⟨#[]⟩, .bool false, .bool false]) 4 32 Tryz.underlying44 hi hz0 hz1 hz2 rfl (by decide) _ _ _ rfl (hown.alloc _) ⟨w'.heap.size, 0, none⟩ 1 1 (ansC Ans.dead) rfl rfl (ansCell' _ _ _ _ _ _ (by simp [World.setCell])) (by intro u hu; simp [ansC] at hu; rcases hu with rfl | rfl | rfl | rfl <;> rfl) (by unfold maxLen; omega) (by omega) (by have := HSW.out; simp; omega) ?_; intro v3 w3 hown3 hgrow3 hnil3)
        go_roundw
        case rel =>
          have hma := HMA.out
          exact ⟨i + 1, by omega, by go_num, rnd_step HR.out hlt HFW.out (by rw [hma]; exact HT'.out) hgrow3 (by rw [hma]; exact hown3)⟩
        case measure => simp [intOf]; omega
    · obtain rfl : i = steps.length := by omega
      have hT := hR.2.2.1
      rw [List.take_length] at hT
      have ht := hT.t
      have hbs := fun n => run_bytes_string (P := Tryz.prog) (src := 52) (dst := 9) (hT.drewN n).m rfl (cap := (mRun pos s.data.toList steps).2.length) Tryz.underlying52 Tryz.underlying5 Tryz.underlying9
      have hV := hR.2.2.2.1
      clear hT hR hwf
      go_wp2_with fail
      go_quiet (fail)
      go_wp2_with fail
      go_ret2
      obtain ⟨h1, h2, h3, h4, h5⟩ := HR.out
      rw [List.take_length] at h5
      have hl := mRun_len pos s.data.toList steps steps.length (Nat.le_refl _)
      rw [List.take_length] at hl
      refine ⟨_, rfl, ?_, h2.drewN _⟩
      rw [hl]
      exact ⟨h5.1, h5.2.imp id (fun ⟨g, cap, cur, e1, e2, e3⟩ => ⟨g, cap, cur, e1, by omega, e3⟩)⟩

end Go.Proofs.YtjfgippolckaeaaGreat
