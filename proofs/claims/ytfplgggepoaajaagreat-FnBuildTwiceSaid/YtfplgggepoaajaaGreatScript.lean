/- impl.Script: the answers of the steps over a new Builder, and the bytes in the end. -/
import Derived.Test.YtfplgggepoaajaaGreatRunB1
import Derived.OwnWalk
import Derived.Maps.AppendAt
import Derived.Deep.CutRange
import Derived.Deep.CutBlock
namespace Go.Proofs.YtfplgggepoaajaaGreat
open Go.RowKit
set_option linter.unusedVariables false
set_option linter.unusedSimpArgs false

/-- An answer of a script. -/
structure BAns where
  r : Nat
  o : Nat
  t : List UInt8
  p : Bool
def bansC (a : BAns) : List Value := [.int .u32 a.r, .int .u32 a.o, .string (strOf a.t), .bool a.p]
def BAns.dead : BAns := ⟨0, 0, [], true⟩
/-- The offset that is handed to a step. -/
def offOf (s : BS) (an : List BAns) : Nat := if 0 < s.ref ∧ s.ref ≤ an.length then (s.off + (an.getD (s.ref.toNat - 1) BAns.dead).r) % 4294967296 else s.off
/-- All steps, one behind the other. -/
def mRunB : List BS → List BAns → BSt → List BAns × Option BSt
  | [], an, st => (an, some st)
  | s :: rest, an, st =>
    match mStep st s (offOf s an) with
    | none => (an ++ [BAns.dead], none)
    | some (r, t, st') => mRunB rest (an ++ [⟨r, st'.m.bytes.length, t, false⟩]) st'
/-- All steps can be asked. -/
def SafeRun : List BS → List BAns → BSt → Prop
  | [], _, _ => True
  | s :: rest, an, st => SOK s ∧ SafeS st s ∧
    match mStep st s (offOf s an) with
    | none => True
    | some (r, t, st') => SafeRun rest (an ++ [⟨r, st'.m.bytes.length, t, false⟩]) st'
def dataOf : Option BSt → List UInt8
  | none => []
  | some st => st.m.bytes
def mScript (n : Nat) (steps : List BS) : List BAns × Option BSt := mRunB steps [] (st0 n)

theorem flatZ_length {α : Type} {z : Nat} (f : α → List Value) (hf : ∀ x, (f x).length = z) (l : List α) : (l.flatMap f).length = l.length * z := by
  induction l with
  | nil => simp
  | cons x r ih => rw [List.flatMap_cons, List.length_append, hf, ih, List.length_cons, Nat.add_mul]; omega
theorem flatZ_get {α : Type} {z : Nat} (f : α → List Value) (hf : ∀ x, (f x).length = z) : ∀ (l : List α) (i j : Nat) (hi : i < l.length) (hj : j < z), (l.flatMap f)[i * z + j]? = (f l[i])[j]?
  | [], _, _, hi, _ => by simp at hi
  | x :: r, 0, j, _, hj => by
    rw [List.flatMap_cons, Nat.zero_mul, Nat.zero_add, List.getElem?_append_left (by rw [hf]; exact hj)]; rfl
  | x :: r, i + 1, j, hi, hj => by
    have ih := flatZ_get f hf r i j (by simpa using hi) hj
    rw [List.flatMap_cons, Nat.add_mul, Nat.one_mul, List.getElem?_append_right (by rw [hf]; omega), hf, show i * z + z + j - z = i * z + j by omega, ih]
    simp
/-- The cells of the i-th of some values of an many cells each. -/
theorem own_cellsZ {w : World} {base z : Nat} {e : TypeId} {v : Value} {α : Type} {f : α → List Value} (hf : ∀ x, (f x).length = z) {l : List α} (h : w.ownsRow base e z v l.length (l.flatMap f)) {i : Nat} (hi : i < l.length) :
    ∃ g cap, v = .slice (some ⟨g, 0, none⟩) l.length cap ∧ g < w.heap.size ∧ ∀ j, j < z → w.cell? ⟨g, i * z + j, none⟩ = (f l[i])[j]? := by
  rcases h.2 with ⟨_, hn⟩ | ⟨g, cap, cur, rfl, hb, hg, h1, h2, h3, h4⟩
  · omega
  · refine ⟨g, cap, rfl, lt_of_block hg, fun j hj => ?_⟩
    have hlt : i * z + j < l.length * z := by
      have : (i + 1) * z ≤ l.length * z := Nat.mul_le_mul_right _ hi
      rw [Nat.add_mul, Nat.one_mul] at this
      omega
    rw [cell_of hg, ← flatZ_get f hf l i j hi hj, ← h4, List.getElem?_take, if_pos hlt]
    simp
theorem infoBAns3 : (Tryz.prog.info? 34).map (fun i => (i.zero, i.size, i.bytes)) = some (some (.agg #[.int .u32 0, .int .u32 0, .string ⟨#[]⟩, .bool false]), 4, 32) := by kernel_rfl
theorem Fr.ownZ {S : Nat → Prop} {w w' : World} {base : Nat} {e : TypeId} {size n : Nat} {v : Value} {xs : List Value} (h : w.ownsRow base e size v n xs) (hf : Fr S w w') (hs : ∀ k, v.ownBlock = some k → ¬ S k) : w'.ownsRow base e size v n xs := by
  refine ⟨h.1, ?_⟩
  rcases h.2 with hn | ⟨g, cap, cur, rfl, hb, hgg, rest⟩
  · exact .inl hn
  · refine .inr ⟨g, cap, cur, rfl, hb, ?_, rest⟩
    rw [hf.block g (lt_of_block hgg) (hs g rfl)]
    exact hgg
theorem own_block_lt {w : World} {base : Nat} {e : TypeId} {size n : Nat} {v : Value} {xs : List Value} (h : w.ownsRow base e size v n xs) : ∀ k, v.ownBlock = some k → base ≤ k ∧ k < w.heap.size := by
  intro k hk
  rcases h.2 with ⟨rfl, _⟩ | ⟨g, cap, cur, rfl, hb, hg, _⟩
  · cases hk
  · injection hk with hk; subst hk; exact ⟨hb, lt_of_block hg⟩

/-- What holds ahead of each round. -/
structure BRnd (w : World) (b P n : Nat) (steps : List BS) (i : Nat) (av : Value) (wr : World) (an : List BAns) (st : BSt) (F : List Nat) : Prop where
  len : an.length = i
  inv : StInv st i
  run : mRunB steps [] (st0 n) = mRunB (steps.drop i) an st
  safe : SafeRun (steps.drop i) an st
  rep : BRep wr b F st
  new : ∀ k ∈ F, w.heap.size ≤ k
  fr : Fr0 w wr
  ptr : wr.cell? ⟨P, 0, none⟩ = some (.pointer (some ⟨b, 0, none⟩))
  pw : w.heap.size ≤ P
  pl : P < wr.heap.size
  pF : P ∉ F
  row : wr.ownsRow w.heap.size 34 4 av i (an.flatMap bansC)
  rowF : ∀ k, av.ownBlock = some k → k ∉ F ∧ k ≠ P
def BRel (w : World) (b P n : Nat) (steps : List BS) (i : Nat) (av : Value) (wr : World) : Prop := ∃ an st F, BRnd w b P n steps i av wr an st F
theorem SafeRun.drop {steps : List BS} {an : List BAns} {st : BSt} {i : Nat} (h : SafeRun (steps.drop i) an st) (hi : i < steps.length) : SOK steps[i] ∧ SafeS st steps[i] ∧ ∀ r t st', mStep st steps[i] (offOf steps[i] an) = some (r, t, st') → SafeRun (steps.drop (i + 1)) (an ++ [⟨r, st'.m.bytes.length, t, false⟩]) st' := by
  rw [List.drop_eq_getElem_cons hi] at h
  refine ⟨h.1, h.2.1, fun r t st' e => ?_⟩
  have := h.2.2
  rw [e] at this
  exact this
theorem mRunB_drop {steps : List BS} {an : List BAns} {st : BSt} {i : Nat} (hi : i < steps.length) : mRunB (steps.drop i) an st = match mStep st steps[i] (offOf steps[i] an) with
    | none => (an ++ [BAns.dead], none)
    | some (r, t, st') => mRunB (steps.drop (i + 1)) (an ++ [⟨r, st'.m.bytes.length, t, false⟩]) st' := by
  rw [List.drop_eq_getElem_cons hi]; rfl
/-- What is there when the function value is called. -/
structure Laid (wr W : World) (s : BS) (off : Nat) : Prop where
  fr : Fr0 wr W
  step : W.heap[wr.heap.size]? = some (.cells (bsC s).toArray 57)
  ans : W.heap[wr.heap.size + 1]? = some (.cells #[.int .u32 0, .int .u32 0, .string ⟨#[]⟩, .bool false] 34)
  off : W.heap[wr.heap.size + 2]? = some (.cells #[.int .u32 off] 26)
theorem Laid.start (wr : World) (s : BS) (off : Nat) : Laid wr (((wr.alloc (.cells (bsC s).toArray 57)).alloc (.cells #[.int .u32 0, .int .u32 0, .string ⟨#[]⟩, .bool false] 34)).alloc (.cells #[.int .u32 off] 26)) s off := by
  refine ⟨(((Fr.refl _ wr).alloc _).alloc _).alloc _, ?_, ?_, ?_⟩
  · simp only [heap_alloc_get, size_alloc]; rw [if_neg (by omega), if_neg (by omega), if_pos trivial]
  · simp only [heap_alloc_get, size_alloc]; rw [if_neg (by omega), if_pos trivial]
  · simp only [heap_alloc_get, size_alloc]; rw [if_pos trivial]
theorem Laid.set {wr W : World} {s : BS} {off off' : Nat} (h : Laid wr W s off) (nq : Nat) : Laid wr ((W.drewN nq).setCell ⟨wr.heap.size + 2, 0, none⟩ (.int .u32 off')) s off' := by
  refine ⟨(h.fr.drewN nq).setCell (fun h => by simp at h; omega) _, ?_, ?_, ?_⟩
  · rw [heap_setCell_other _ _ _ _ (show wr.heap.size ≠ wr.heap.size + 2 by omega)]; exact h.step
  · rw [heap_setCell_other _ _ _ _ (show wr.heap.size + 1 ≠ wr.heap.size + 2 by omega)]; exact h.ans
  · exact heap_setCell_same (show (W.drewN nq).heap[wr.heap.size + 2]? = _ from h.off) 0 _
theorem newCells (wr : World) (t : TypeId) (x0 x1 x2 x3 : Value) (n : Nat) (hn : wr.heap.size = n) : ∀ j u, [x0, x1, x2, x3][j]? = some u → (wr.alloc (.cells #[x0, x1, x2, x3] t)).cell? ((⟨n, 0, none⟩ : Addr).add j) = some u := by
  intro j u hu
  subst hn
  have hadd : (⟨wr.heap.size, 0, none⟩ : Addr).add j = ⟨wr.heap.size, j, none⟩ := by unfold Addr.add; split <;> simp_all
  rw [hadd, cell_of (heap_alloc_new wr _)]
  simpa using hu
theorem brnd_step {w wr W3 w' w5 w6 : World} {b P n i off r : Nat} {steps : List BS} {av v3 : Value} {an : List BAns} {st st' : BSt} {F F' : List Nat} {t : List UInt8} {o : Obj} {s : BS} (HR : BRnd w b P n steps i av wr an st F) (hlt : i < steps.length) (hi3 : i ≤ 300)
    (hfr3 : Fr0 wr W3) (hsz3 : wr.heap.size + 2 < W3.heap.size) (hb : BRep w' b F' st') (hf : Fr (fun k => k ∈ F ∨ k = wr.heap.size + 1) W3 w') (hF : ∀ k ∈ F', k ∈ F ∨ W3.heap.size ≤ k) (h5 : Fr (fun k => k = wr.heap.size + 1) w' w5)
    (hg : (w5.alloc o).grownBy w6 av.ownBlock) (hat : v3.ownBlock = av.ownBlock ∨ v3.ownBlock = some (w5.alloc o).heap.size) (hown : w6.ownsRow w.heap.size 34 4 v3 (i + 1) (an.flatMap bansC ++ bansC ⟨r, st'.m.bytes.length, t, false⟩))
    (hm : mStep st steps[i] off = some (r, t, st')) (hok : SOK s ∧ SafeS st s ∧ off < 2 ^ 32)
    (hrun : mRunB (steps.drop i) an st = match mStep st s off with | none => (an ++ [BAns.dead], none) | some (r, t, st') => mRunB (steps.drop (i + 1)) (an ++ [⟨r, st'.m.bytes.length, t, false⟩]) st')
    (hnext : ∀ r t st', mStep st s off = some (r, t, st') → SafeRun (steps.drop (i + 1)) (an ++ [⟨r, st'.m.bytes.length, t, false⟩]) st') (hs : s = steps[i]) : BRel w b P n steps (i + 1) v3 w6 := by
  have hwr := HR.fr.size
  have hsw := hf.size
  have hs5 := h5.size
  have hgf := grown_fr hg
  have hs6 := hgf.size
  rw [size_alloc] at hs6
  rw [hs] at hok hrun hnext
  have havl : ∀ k, av.ownBlock = some k → w.heap.size ≤ k ∧ k < wr.heap.size := own_block_lt HR.row
  have hfrest : Fr (fun k => k = wr.heap.size + 1 ∨ some k = av.ownBlock) w' w6 := ((h5.mono (S' := fun k => k = wr.heap.size + 1 ∨ some k = av.ownBlock) (fun _ _ h => .inl h)).alloc o).trans2 hgf (fun k hk h => .inr h)
  have hfall : Fr (fun k => k ∈ F ∨ k = wr.heap.size + 1 ∨ some k = av.ownBlock) wr w6 :=
    ((hfr3.mono (S' := fun k => k ∈ F ∨ k = wr.heap.size + 1 ∨ some k = av.ownBlock) (fun _ _ x => x.elim)).trans2 hf (fun k _ h => h.imp id .inl)).trans2 hfrest (fun k _ h => .inr h)
  have hFk : ∀ k ∈ F', k ≠ wr.heap.size + 1 ∧ ¬ some k = av.ownBlock := by
    intro k hk
    rcases hF k hk with h | h
    · have := HR.rep.below k h
      exact ⟨by omega, fun e => (HR.rowF k e.symm).1 h⟩
    · exact ⟨by omega, fun e => by have := havl k e.symm; omega⟩
  refine ⟨an ++ [⟨r, st'.m.bytes.length, t, false⟩], st', F', by rw [List.length_append, HR.len]; rfl, mStep_inv HR.inv hi3 hok.1 hok.2.1 hm, ?_, hnext _ _ _ hm, hb.keep hfrest (fun k hk h => ?_), fun k hk => ?_, HR.fr.trans2 hfall (fun k hk h => ?_), ?_, HR.pw, ?_, fun hP => ?_, ?_, fun k hk => ?_⟩
  · rw [HR.run, hrun, hm]
  · rcases h with h | h
    · exact (hFk k hk).1 h
    · exact (hFk k hk).2 h
  · rcases hF k hk with h | h
    · exact HR.new k h
    · omega
  · rcases h with h | h | h
    · have := HR.new k h; omega
    · omega
    · have := (havl k h.symm).1; omega
  · have hPn : ¬ (P ∈ F ∨ P = wr.heap.size + 1 ∨ some P = av.ownBlock) := by
      have := HR.pl
      rintro (h | h | h)
      · exact HR.pF h
      · omega
      · exact (HR.rowF P h.symm).2 rfl
    exact (Fr.cell hfall (p := ⟨P, 0, none⟩) HR.pl hPn).trans HR.ptr
  · have := HR.pl; omega
  · rcases hF P hP with h | h
    · exact HR.pF h
    · have := HR.pl; omega
  · rw [List.flatMap_append]; simpa using hown
  · rcases hat with h | h
    · rw [h] at hk
      refine ⟨fun hk' => (hFk k hk').2 hk.symm, (HR.rowF k hk).2⟩
    · rw [h] at hk
      injection hk with hk
      rw [size_alloc] at hk
      have hPl := HR.pl
      refine ⟨fun hk' => ?_, by omega⟩
      have := hb.below k hk'
      omega
set_option maxRecDepth 100000 in
set_option maxHeartbeats 8000000 in
theorem Script_calls (n : Nat) (v : Value) (steps : List BS) (w : World) (hn : n ≤ 5000) (hown : w.ownsRow 0 57 11 v steps.length (steps.flatMap bsC)) (hlen : steps.length ≤ 300) (hsafe : SafeRun steps [] (st0 n)) :
    Calls Tryz.prog 21 #[.int .i64 n, v] w fun e w' => ∃ r, e = .returned (.tuple #[r, .string (strOf (dataOf (mScript n steps).2))]) ∧
      w'.ownsRow w.heap.size 34 4 r (mScript n steps).1.length ((mScript n steps).1.flatMap bansC) ∧ Fr0 w w' := by
  obtain ⟨i0, hi, hz0, hz1, hz2⟩ := info_parts infoBAns3
  have hmf : ∀ (fn : Fn) (first cap : Array Value) (w : World), (Instr.makeFunc fn first cap).run Tryz.prog w = .ok (.func fn first cap) w := fun _ _ _ _ => rfl
  have hvs : ∃ ao cap, v = .slice ao steps.length cap := by
    rcases hown.2 with ⟨rfl, h⟩ | ⟨g, cap, _, rfl, _⟩
    · exact ⟨none, 0, by rw [h]⟩
    · exact ⟨_, cap, rfl⟩
  obtain ⟨ao, cap, rfl⟩ := hvs
  obtain ⟨res, hres⟩ : ∃ res, res = mScript n steps := ⟨_, rfl⟩
  rw [← hres]
  have HRES := Lib.hid hres
  have HOWN := Lib.hid hown
  have HSAFE := Lib.hid hsafe
  have HNB := Lib.hid (NewBuilder_calls n w hn)
  clear hown hres hsafe
  go_enter Tryz.func21, Tryz.ntmps21
  go_wp2_with fail
  refine HNB.out.mono ?_
  rintro e w1 ⟨rfl, F0, hb0, ha0⟩
  have hP : (w1.alloc (.cells #[.pointer (some ⟨w.heap.size, 0, none⟩)] 73)).cell? ⟨w1.heap.size, 0, none⟩ = some (.pointer (some ⟨w.heap.size, 0, none⟩)) := by
    rw [cell_of (heap_alloc_new w1 _)]; rfl
  have hstart : BRel w w.heap.size w1.heap.size n steps 0 (.slice none 0 0) (w1.alloc (.cells #[.pointer (some ⟨w.heap.size, 0, none⟩)] 73)) := by
    refine ⟨[], st0 n, F0, rfl, StInv.start n, rfl, HSAFE.out, hb0.keep ((Fr.refl (fun _ => False) w1).alloc _) (fun _ _ x => x), fun k hk => ?_, ((ha0.1.mono (fun k hk hm => by simp at hm)).alloc _), hP, ha0.1.size, by simp, fun hm => ?_, World.ownsRow_nil _ _ _ _, fun k hk => by cases hk⟩
    · rcases ha0.2 k hk with h | h
      · simp at h
      · exact h
    · have := hb0.below _ hm; omega
  have HST := Lib.hid hstart
  clear hb0 ha0 hP hstart
  go_wp2_with fail
  go_loopw [4, 15] (fun av iv wr => ∃ i : Nat, i ≤ steps.length ∧ iv = .int .i64 i ∧ BRel w w.heap.size w1.heap.size n steps i av wr) (fun _ iv _ => steps.length - (intOf iv).toNat)
  case atStart => exact ⟨0, Nat.zero_le _, rfl, HST.out⟩
  case round =>
    obtain ⟨i, hi1, rfl, an, st, F, hR⟩ := hrel
    have HR := Lib.hid hR
    have hvs2 : ∃ ao2 cap2, u4 = .slice ao2 i cap2 := by
      rcases hR.row.2 with ⟨rfl, h⟩ | ⟨g, cap, _, rfl, _⟩
      · exact ⟨none, 0, by rw [h]⟩
      · exact ⟨_, cap, rfl⟩
    obtain ⟨ao2, cap2, rfl⟩ := hvs2
    by_cases hlt : i < steps.length
    · obtain ⟨g, cap', hv, hgl, hcs⟩ := own_cellsZ (f := bsC) bsC_length (Fr.ownZ HOWN.out hR.fr (fun _ _ x => x)) hlt
      simp only [Value.slice.injEq] at hv
      obtain ⟨rfl, -, rfl⟩ := hv
      obtain ⟨hsok, hsf, hnext⟩ := hR.safe.drop hlt
      have hrun := mRunB_drop (an := an) (st := st) hlt
      obtain ⟨s, hs⟩ : ∃ s, s = steps[i] := ⟨_, rfl⟩
      rw [← hs] at hcs hsok hsf hnext hrun
      obtain ⟨off, hoff⟩ : ∃ off, off = offOf s an := ⟨_, rfl⟩
      rw [← hoff] at hnext hrun
      obtain ⟨op, kind, slot, num, els, off0, ref, size, more, by_, text⟩ := s
      obtain ⟨T, hT⟩ : ∃ T, T = strOf text := ⟨_, rfl⟩
      have c0 : wr.cell? ⟨g, i * 11, none⟩ = some (.int .u8 op) := hcs 0 (by omega)
      have c1 : wr.cell? ⟨g, i * 11 + 1, none⟩ = some (.int .u8 kind) := hcs 1 (by omega)
      have c2 : wr.cell? ⟨g, i * 11 + 2, none⟩ = some (.int .i64 slot) := hcs 2 (by omega)
      have c3 : wr.cell? ⟨g, i * 11 + 3, none⟩ = some (.int .u64 num) := hcs 3 (by omega)
      have c4 : wr.cell? ⟨g, i * 11 + 4, none⟩ = some (.int .u64 els) := hcs 4 (by omega)
      have c5 : wr.cell? ⟨g, i * 11 + 5, none⟩ = some (.int .u32 off0) := hcs 5 (by omega)
      have c6 : wr.cell? ⟨g, i * 11 + 6, none⟩ = some (.int .i64 ref) := hcs 6 (by omega)
      have c7 : wr.cell? ⟨g, i * 11 + 7, none⟩ = some (.int .i64 size) := hcs 7 (by omega)
      have c8 : wr.cell? ⟨g, i * 11 + 8, none⟩ = some (.int .i64 more) := hcs 8 (by omega)
      have c9 : wr.cell? ⟨g, i * 11 + 9, none⟩ = some (.int .i64 by_) := hcs 9 (by omega)
      have c10 : wr.cell? ⟨g, i * 11 + 10, none⟩ = some (.string T) := by rw [hT]; exact hcs 10 (by omega)
      have hlen1 : an.length = i := hR.len
      have hcase : (0 < ref ∧ ref ≤ i ∧ ∃ j : Nat, ref = (j : Int) + 1 ∧ ∃ hj : j < an.length, off = (off0 + (an[j]).r) % 4294967296) ∨ (¬ 0 < ref ∧ off = off0) ∨ (0 < ref ∧ ¬ ref ≤ i ∧ off = off0) := by
        have : off = offOf ⟨op, kind, slot, num, els, off0, ref, size, more, by_, text⟩ an := hoff
        unfold offOf at this
        dsimp only at this
        rw [hlen1] at this
        by_cases h1 : 0 < ref
        · by_cases h2 : ref ≤ i
          · left
            rw [if_pos ⟨h1, h2⟩] at this
            refine ⟨h1, h2, ref.toNat - 1, by omega, by omega, ?_⟩
            rw [this]
            congr 3
            rw [List.getD_eq_getElem?_getD, List.getElem?_eq_getElem (by omega)]
            rfl
          · right; right
            rw [if_neg (by omega)] at this
            exact ⟨h1, h2, this⟩
        · right; left
          rw [if_neg (by omega)] at this
          exact ⟨h1, this⟩
      have hofl : off < 2 ^ 32 := by
        have := hsok.off
        dsimp only at this
        rcases hcase with ⟨_, _, j, _, _, h⟩ | ⟨_, h⟩ | ⟨_, _, h⟩ <;> omega
      have HOK := Lib.hid (And.intro hsok (And.intro hsf hofl))
      have HNX := Lib.hid hnext
      have HRUN := Lib.hid hrun
      have HS := Lib.hid hs
      have HT := Lib.hid hT
      have HREP := Lib.hid hR.rep
      have hrow := hR.row
      rw [← hlen1] at hrow
      have hpl := hR.pl
      have HLEN := Lib.hid hlen1
      have hLS := Laid.start wr ⟨op, kind, slot, num, els, off0, ref, size, more, by_, text⟩ off0
      unfold bsC at hLS
      dsimp only at hLS
      rw [← hT] at hLS
      have HLS := Lib.hid hLS
      have HROW := Lib.hid hrow
      have HCS := Lib.hid hcase
      clear hsok hsf hnext hrun hs hT hcs hR hofl hlen1 hgl hLS hrow hcase hoff
      rcases HCS.out with ⟨hr1, hr2, j, hj, hjl, ho⟩ | ⟨hr1, ho⟩ | ⟨hr1, hr2, ho⟩
      · obtain ⟨g2, cap3, hv2, hgl2, hcs2⟩ := own_cellsZ (f := bansC) (z := 4) (fun _ => rfl) HROW.out hjl
        have d0 : wr.cell? ⟨g2, j * 4, none⟩ = some (.int .u32 (an[j]).r) := hcs2 0 (by omega)
        obtain ⟨r0, hr0⟩ : ∃ r0, r0 = (an[j]).r := ⟨_, rfl⟩
        rw [← hr0] at d0 ho
        simp only [Value.slice.injEq] at hv2
        obtain ⟨rfl, -, rfl⟩ := hv2
        have HO := Lib.hid ho
        clear hcs2 hr0 ho
        subst hj
        go_upto_region 8 with fail
        have hL := HLS.out
        generalize World.alloc (World.alloc (World.alloc wr _) _) _ = W2 at *
        have e0 : W2.cell? ⟨g2, j * 4, none⟩ = some (.int .u32 r0) := (Fr.cell hL.fr (p := ⟨g2, j * 4, none⟩) hgl2 (fun x => x)).trans d0
        have e1 : W2.cell? ⟨wr.heap.size + 1 + 1, 0, none⟩ = some (.int .u32 off0) := by rw [cell_of (show W2.heap[wr.heap.size + 1 + 1]? = _ from hL.off)]; rfl
        have e2 : W2.cell? ⟨wr.heap.size, 6, none⟩ = some (.int .i64 ((j : Int) + 1)) := by rw [cell_of hL.step]; rfl
        have e3 : W2.frozen? ⟨wr.heap.size + 1 + 1, 0, none⟩ = false := frozen_of hL.off 0
        have hji : (j : Int) + 1 - 1 = (j : Int) := by omega
        have hjw : IntKind.i64.wrap ((j : Int) + 1 - 1) = (j : Int) := by rw [hji]; exact IntWalk.i64_in _ ⟨by omega, by omega⟩
        have hji2 : j < i := by have := HLEN.out; omega
        have hji3 : (j : Int) < (i : Int) := by omega
        have hji4 : (0 : Int) ≤ (j : Int) := by omega
        have HLL := Lib.hid hL
        clear hL c0 c1 c2 c3 c4 c5 c6 c7 c8 c9 c10 d0
        refine wp_region_last' _ (by simp) (by kernel_rfl) (by kernel_rfl) (by kernel_rfl) (by kernel_rfl) (by kernel_rfl) (by kernel_rfl) ?_
        simp only [List.dropLast]
        repeat (go_big_quiet_step (fail))
        refine wpQuiet_nil ?_
        intro nq
        refine wpOp_step rfl (fun K hK => ?_)
        go_simp
        refine hK _ _ ?_
        have hoi : ((off0 : Int) + (r0 : Int)) % 4294967296 = (off : Int) := by have := HO.out; omega
        rw [hoi]
        have hL : Laid wr ((W2.drewN nq).setCell ⟨wr.heap.size + 1 + 1, 0, none⟩ (.int .u32 off)) _ off := HLL.out.set nq
        have HL := Lib.hid hL
        clear hL hoi e0 e1 e2 e3 hji hjw hji2 hji3 hji4 HLL HLS hgl2
        generalize (W2.drewN nq).setCell ⟨wr.heap.size + 1 + 1, 0, none⟩ (.int .u32 off) = W3 at *
        have hRR := HR.out
        have hL := HL.out
        have hPW : W3.cell? ⟨w1.heap.size, 0, none⟩ = some (.pointer (some ⟨w.heap.size, 0, none⟩)) := (Fr.cell hL.fr (p := ⟨w1.heap.size, 0, none⟩) hpl (fun x => x)).trans hRR.ptr
        have hsz3 : wr.heap.size + 2 < W3.heap.size := lt_of_block hL.off
        have hAF : wr.heap.size + 1 ∉ F := fun hm => by have := HREP.out.below _ hm; omega
        have hi3 : i ≤ 300 := by omega
        have hstep : (∃ r t st', mStep st steps[i] off = some (r, t, st')) ∨ mStep st steps[i] off = none := by
          cases mStep st steps[i] off with
          | none => exact .inr rfl
          | some x => exact .inl ⟨x.1, x.2.1, x.2.2, rfl⟩
        have HSTEP := Lib.hid hstep
        have hO3 : W3.cell? ⟨wr.heap.size + 1 + 1, 0, none⟩ = some (.int .u32 off) := by rw [cell_of (show W3.heap[wr.heap.size + 1 + 1]? = _ from hL.off)]; rfl
        have HOO := Lib.hid hO3
        have HPW := Lib.hid hPW
        have HSZ3 := Lib.hid hsz3
        have HAF := Lib.hid hAF
        clear hRR hL hPW hsz3 hAF hstep hO3
        rcases HSTEP.out with ⟨r, t, st', hm⟩ | hm
        · have HM := Lib.hid hm
          rw [← HS.out] at hm
          have HC := Lib.hid (thrown_b_ok w1.heap.size w.heap.size wr.heap.size (wr.heap.size + 1 + 1) (wr.heap.size + 1) F st st' _ off i r t _ _ _ _ W3 (HREP.out.keep HL.out.fr (fun _ _ x => x)) HR.out.inv hi3 HOK.out.1 HOK.out.2.1 HOK.out.2.2 hm (by have := HSZ3.out; omega) HPW.out HL.out.step (by have := HSZ3.out; omega) HOO.out HL.out.ans HAF.out)
          clear hm
          go_wp2_with fail
          refine HC.out.mono ?_
          rintro e w' ⟨rfl, F', hb, hf, hF, hA'⟩
          have k0 : w'.cell? ⟨wr.heap.size + 1, 0, none⟩ = some (.int .u32 r) := by rw [cell_of hA']; rfl
          have k1 : w'.cell? ⟨wr.heap.size + 1, 1, none⟩ = some (.int .u32 0) := by rw [cell_of hA']; rfl
          have k2 : w'.cell? ⟨wr.heap.size + 1, 2, none⟩ = some (.string (strOf t)) := by rw [cell_of hA']; rfl
          have k3 : w'.cell? ⟨wr.heap.size + 1, 3, none⟩ = some (.bool false) := by rw [cell_of hA']; rfl
          have kf := frozen_of hA' 1
          have kp : w'.cell? ⟨w1.heap.size, 0, none⟩ = some (.pointer (some ⟨w.heap.size, 0, none⟩)) := (Fr.cell hf (p := ⟨w1.heap.size, 0, none⟩) (by show w1.heap.size < W3.heap.size; have := HSZ3.out; omega) (fun h => by rcases h with h | h; exact HR.out.pF h; have h : w1.heap.size = wr.heap.size + 1 := h; omega)).trans HPW.out
          have hof := Offset_b w.heap.size F' st' w' hb
          obtain ⟨ol, hol⟩ : ∃ ol, ol = st'.m.bytes.length := ⟨_, rfl⟩
          rw [← hol] at hof
          obtain ⟨ST, hST⟩ : ∃ ST, ST = strOf t := ⟨_, rfl⟩
          rw [← hST] at k2
          have hsw := hf.size
          have HSW : RowKit.Hid (wr.heap.size + 2 < w'.heap.size) := Lib.hid (by have := HSZ3.out; omega)
          have HOF := Lib.hid hof
          have HOL := Lib.hid hol
          have HSTT := Lib.hid hST
          have HB := Lib.hid hb
          have HF := Lib.hid hf
          have HFF := Lib.hid hF
          have h5 : ∀ n2, Fr (fun k => k = wr.heap.size + 1) w' ((w'.drewN n2).setCell ⟨wr.heap.size + 1, 1, none⟩ (.int .u32 ol)) := fun n2 => ((Fr.refl (fun k => k = wr.heap.size + 1) w').drewN n2).setCell (fun _ => rfl) _
          have hown5 := fun n2 =>
            Fr.ownZ HR.out.row (S := fun k => k ∈ F ∨ k = wr.heap.size + 1) (((HL.out.fr.mono (S' := fun k => k ∈ F ∨ k = wr.heap.size + 1) (fun _ _ x => x.elim)).trans2 hf (fun _ _ h => h)).trans2 (h5 n2) (fun k hk h => .inr h)) (fun k hk h => by
              have h1 := own_block_lt HR.out.row k hk
              rcases h with h | h
              · exact (HR.out.rowF k hk).1 h
              · omega)
          have HOWN5 := Lib.hid hown5
          have H5 := Lib.hid h5
          clear hb hf hF hA' hof hol hST hsw h5 hown5
          go_wp2_with fail
          refine HOF.out.mono ?_
          rintro e w2 ⟨rfl, n2, rfl⟩
          have hownn := HOWN5.out n2
          go_wp2_with (at_builtin; refine wpList_append_own_at _ rfl (.tmp 49) (.tmp 51) 30 rfl w.heap.size 34 i0 (.agg #[.int .u32 0, .int .u32 0, .string ⟨#[]⟩, .bool false]) 4 32 Tryz.underlying30 hi hz0 hz1 hz2 rfl (by decide) _ _ _ rfl (hownn.alloc _) ⟨w'.heap.size, 0, none⟩ 1 1 [.int .u32 r, .int .u32 ol, .string ST, .bool false] rfl rfl (newCells _ _ _ _ _ _ _ (by simp [World.setCell])) (by intro u hu; simp at hu; rcases hu with rfl | rfl | rfl | rfl <;> rfl) (by unfold maxLen; omega) (by omega) (by have := HSW.out; have := HR.out.fr.size; simp [World.setCell]; omega) ?_; intro v3 w3 hown3 hgrow3 hnil3 hat3)
          go_roundw
          case rel =>
            refine ⟨i + 1, by omega, by go_num, brnd_step HR.out hlt (by omega) HL.out.fr HSZ3.out HB.out HF.out HFF.out (H5.out n2) hgrow3 hat3 ?_ HM.out HOK.out HRUN.out HNX.out HS.out⟩
            rw [← HOL.out, bansC, ← HSTT.out]
            exact hown3
          case measure => simp [intOf]; omega
        · have HM := Lib.hid hm
          rw [← HS.out] at hm
          have HC := Lib.hid (thrown_b_falls w1.heap.size w.heap.size wr.heap.size (wr.heap.size + 1 + 1) (wr.heap.size + 1) F st _ off i W3 (HREP.out.keep HL.out.fr (fun _ _ x => x)) HR.out.inv hi3 HOK.out.1 HOK.out.2.1 HOK.out.2.2 hm (by have := HSZ3.out; omega) HPW.out HL.out.step (by have := HSZ3.out; omega) HOO.out)
          clear hm
          go_wp2_with fail
          refine HC.out.mono ?_
          rintro e w' ⟨rfl, hf⟩
          have hfw : Fr (fun k => k ∈ F) wr w' := (HL.out.fr.mono (S' := fun k => k ∈ F) (fun _ _ x => x.elim)).trans2 hf (fun _ _ h => h)
          have hownn := Fr.ownZ HR.out.row hfw (fun k hk => (HR.out.rowF k hk).1)
          have HFW := Lib.hid hfw
          have hswz := hfw.size
          have hwz := HR.out.fr.size
          have HSW : RowKit.Hid (w.heap.size ≤ w'.heap.size) := Lib.hid (by omega)
          clear hf hfw hswz hwz
          go_wp2_with (at_builtin; refine wpList_append_own_at _ rfl (.tmp 42) (.tmp 44) 30 rfl w.heap.size 34 i0 (.agg #[.int .u32 0, .int .u32 0, .string ⟨#[]⟩, .bool false]) 4 32 Tryz.underlying30 hi hz0 hz1 hz2 rfl (by decide) _ _ _ rfl (hownn.alloc _) ⟨w'.heap.size, 0, none⟩ 1 1 (bansC BAns.dead) rfl rfl (newCells _ _ _ _ _ _ _ rfl) (by intro u hu; simp [bansC] at hu; rcases hu with rfl | rfl | rfl | rfl <;> rfl) (by unfold maxLen; omega) (by omega) (by have := HSW.out; simp; omega) ?_; intro v3 w3 hown3 hgrow3 hnil3 hat3)
          go_ret2
          have hr := HRES.out.trans HR.out.run
          rw [HRUN.out, HS.out, HM.out] at hr
          rw [hr]
          refine ⟨_, rfl, ?_, ?_⟩
          · rw [List.length_append, HLEN.out, List.flatMap_append]
            simpa using hown3
          · have hg := grown_fr hgrow3
            refine ((HR.out.fr.trans2 HFW.out (fun k hk h => absurd hk (by have := HR.out.new k h; omega))).alloc _).trans2 (S := fun _ => False) hg (fun k hk h => ?_)
            have := (own_block_lt HR.out.row k h.symm).1
            omega
      · subst ho
        go_upto_region 9 with fail
        have HL := Lib.hid HLS.out
        clear HLS c0 c1 c2 c3 c4 c5 c6 c7 c8 c9 c10
        generalize World.alloc (World.alloc (World.alloc wr _) _) _ = W3 at *
        have hRR := HR.out
        have hL := HL.out
        have hPW : W3.cell? ⟨w1.heap.size, 0, none⟩ = some (.pointer (some ⟨w.heap.size, 0, none⟩)) := (Fr.cell hL.fr (p := ⟨w1.heap.size, 0, none⟩) hpl (fun x => x)).trans hRR.ptr
        have hsz3 : wr.heap.size + 2 < W3.heap.size := lt_of_block hL.off
        have hAF : wr.heap.size + 1 ∉ F := fun hm => by have := HREP.out.below _ hm; omega
        have hi3 : i ≤ 300 := by omega
        have hstep : (∃ r t st', mStep st steps[i] off = some (r, t, st')) ∨ mStep st steps[i] off = none := by
          cases mStep st steps[i] off with
          | none => exact .inr rfl
          | some x => exact .inl ⟨x.1, x.2.1, x.2.2, rfl⟩
        have HSTEP := Lib.hid hstep
        have hO3 : W3.cell? ⟨wr.heap.size + 1 + 1, 0, none⟩ = some (.int .u32 off) := by rw [cell_of (show W3.heap[wr.heap.size + 1 + 1]? = _ from hL.off)]; rfl
        have HOO := Lib.hid hO3
        have HPW := Lib.hid hPW
        have HSZ3 := Lib.hid hsz3
        have HAF := Lib.hid hAF
        clear hRR hL hPW hsz3 hAF hstep hO3
        rcases HSTEP.out with ⟨r, t, st', hm⟩ | hm
        · have HM := Lib.hid hm
          rw [← HS.out] at hm
          have HC := Lib.hid (thrown_b_ok w1.heap.size w.heap.size wr.heap.size (wr.heap.size + 1 + 1) (wr.heap.size + 1) F st st' _ off i r t _ _ _ _ W3 (HREP.out.keep HL.out.fr (fun _ _ x => x)) HR.out.inv hi3 HOK.out.1 HOK.out.2.1 HOK.out.2.2 hm (by have := HSZ3.out; omega) HPW.out HL.out.step (by have := HSZ3.out; omega) HOO.out HL.out.ans HAF.out)
          clear hm
          go_wp2_with fail
          refine HC.out.mono ?_
          rintro e w' ⟨rfl, F', hb, hf, hF, hA'⟩
          have k0 : w'.cell? ⟨wr.heap.size + 1, 0, none⟩ = some (.int .u32 r) := by rw [cell_of hA']; rfl
          have k1 : w'.cell? ⟨wr.heap.size + 1, 1, none⟩ = some (.int .u32 0) := by rw [cell_of hA']; rfl
          have k2 : w'.cell? ⟨wr.heap.size + 1, 2, none⟩ = some (.string (strOf t)) := by rw [cell_of hA']; rfl
          have k3 : w'.cell? ⟨wr.heap.size + 1, 3, none⟩ = some (.bool false) := by rw [cell_of hA']; rfl
          have kf := frozen_of hA' 1
          have kp : w'.cell? ⟨w1.heap.size, 0, none⟩ = some (.pointer (some ⟨w.heap.size, 0, none⟩)) := (Fr.cell hf (p := ⟨w1.heap.size, 0, none⟩) (by show w1.heap.size < W3.heap.size; have := HSZ3.out; omega) (fun h => by rcases h with h | h; exact HR.out.pF h; have h : w1.heap.size = wr.heap.size + 1 := h; omega)).trans HPW.out
          have hof := Offset_b w.heap.size F' st' w' hb
          obtain ⟨ol, hol⟩ : ∃ ol, ol = st'.m.bytes.length := ⟨_, rfl⟩
          rw [← hol] at hof
          obtain ⟨ST, hST⟩ : ∃ ST, ST = strOf t := ⟨_, rfl⟩
          rw [← hST] at k2
          have hsw := hf.size
          have HSW : RowKit.Hid (wr.heap.size + 2 < w'.heap.size) := Lib.hid (by have := HSZ3.out; omega)
          have HOF := Lib.hid hof
          have HOL := Lib.hid hol
          have HSTT := Lib.hid hST
          have HB := Lib.hid hb
          have HF := Lib.hid hf
          have HFF := Lib.hid hF
          have h5 : ∀ n2, Fr (fun k => k = wr.heap.size + 1) w' ((w'.drewN n2).setCell ⟨wr.heap.size + 1, 1, none⟩ (.int .u32 ol)) := fun n2 => ((Fr.refl (fun k => k = wr.heap.size + 1) w').drewN n2).setCell (fun _ => rfl) _
          have hown5 := fun n2 =>
            Fr.ownZ HR.out.row (S := fun k => k ∈ F ∨ k = wr.heap.size + 1) (((HL.out.fr.mono (S' := fun k => k ∈ F ∨ k = wr.heap.size + 1) (fun _ _ x => x.elim)).trans2 hf (fun _ _ h => h)).trans2 (h5 n2) (fun k hk h => .inr h)) (fun k hk h => by
              have h1 := own_block_lt HR.out.row k hk
              rcases h with h | h
              · exact (HR.out.rowF k hk).1 h
              · omega)
          have HOWN5 := Lib.hid hown5
          have H5 := Lib.hid h5
          clear hb hf hF hA' hof hol hST hsw h5 hown5
          go_wp2_with fail
          refine HOF.out.mono ?_
          rintro e w2 ⟨rfl, n2, rfl⟩
          have hownn := HOWN5.out n2
          go_wp2_with (at_builtin; refine wpList_append_own_at _ rfl (.tmp 49) (.tmp 51) 30 rfl w.heap.size 34 i0 (.agg #[.int .u32 0, .int .u32 0, .string ⟨#[]⟩, .bool false]) 4 32 Tryz.underlying30 hi hz0 hz1 hz2 rfl (by decide) _ _ _ rfl (hownn.alloc _) ⟨w'.heap.size, 0, none⟩ 1 1 [.int .u32 r, .int .u32 ol, .string ST, .bool false] rfl rfl (newCells _ _ _ _ _ _ _ (by simp [World.setCell])) (by intro u hu; simp at hu; rcases hu with rfl | rfl | rfl | rfl <;> rfl) (by unfold maxLen; omega) (by omega) (by have := HSW.out; have := HR.out.fr.size; simp [World.setCell]; omega) ?_; intro v3 w3 hown3 hgrow3 hnil3 hat3)
          go_roundw
          case rel =>
            refine ⟨i + 1, by omega, by go_num, brnd_step HR.out hlt (by omega) HL.out.fr HSZ3.out HB.out HF.out HFF.out (H5.out n2) hgrow3 hat3 ?_ HM.out HOK.out HRUN.out HNX.out HS.out⟩
            rw [← HOL.out, bansC, ← HSTT.out]
            exact hown3
          case measure => simp [intOf]; omega
        · have HM := Lib.hid hm
          rw [← HS.out] at hm
          have HC := Lib.hid (thrown_b_falls w1.heap.size w.heap.size wr.heap.size (wr.heap.size + 1 + 1) (wr.heap.size + 1) F st _ off i W3 (HREP.out.keep HL.out.fr (fun _ _ x => x)) HR.out.inv hi3 HOK.out.1 HOK.out.2.1 HOK.out.2.2 hm (by have := HSZ3.out; omega) HPW.out HL.out.step (by have := HSZ3.out; omega) HOO.out)
          clear hm
          go_wp2_with fail
          refine HC.out.mono ?_
          rintro e w' ⟨rfl, hf⟩
          have hfw : Fr (fun k => k ∈ F) wr w' := (HL.out.fr.mono (S' := fun k => k ∈ F) (fun _ _ x => x.elim)).trans2 hf (fun _ _ h => h)
          have hownn := Fr.ownZ HR.out.row hfw (fun k hk => (HR.out.rowF k hk).1)
          have HFW := Lib.hid hfw
          have hswz := hfw.size
          have hwz := HR.out.fr.size
          have HSW : RowKit.Hid (w.heap.size ≤ w'.heap.size) := Lib.hid (by omega)
          clear hf hfw hswz hwz
          go_wp2_with (at_builtin; refine wpList_append_own_at _ rfl (.tmp 42) (.tmp 44) 30 rfl w.heap.size 34 i0 (.agg #[.int .u32 0, .int .u32 0, .string ⟨#[]⟩, .bool false]) 4 32 Tryz.underlying30 hi hz0 hz1 hz2 rfl (by decide) _ _ _ rfl (hownn.alloc _) ⟨w'.heap.size, 0, none⟩ 1 1 (bansC BAns.dead) rfl rfl (newCells _ _ _ _ _ _ _ rfl) (by intro u hu; simp [bansC] at hu; rcases hu with rfl | rfl | rfl | rfl <;> rfl) (by unfold maxLen; omega) (by omega) (by have := HSW.out; simp; omega) ?_; intro v3 w3 hown3 hgrow3 hnil3 hat3)
          go_ret2
          have hr := HRES.out.trans HR.out.run
          rw [HRUN.out, HS.out, HM.out] at hr
          rw [hr]
          refine ⟨_, rfl, ?_, ?_⟩
          · rw [List.length_append, HLEN.out, List.flatMap_append]
            simpa using hown3
          · have hg := grown_fr hgrow3
            refine ((HR.out.fr.trans2 HFW.out (fun k hk h => absurd hk (by have := HR.out.new k h; omega))).alloc _).trans2 (S := fun _ => False) hg (fun k hk h => ?_)
            have := (own_block_lt HR.out.row k h.symm).1
            omega
      · subst ho
        have hd2 : decide (ref ≤ (i : Int)) = false := by rw [decide_eq_false_iff_not]; exact hr2
        go_upto_region 9 with fail
        have HL := Lib.hid HLS.out
        clear HLS c0 c1 c2 c3 c4 c5 c6 c7 c8 c9 c10
        generalize World.alloc (World.alloc (World.alloc wr _) _) _ = W3 at *
        have hRR := HR.out
        have hL := HL.out
        have hPW : W3.cell? ⟨w1.heap.size, 0, none⟩ = some (.pointer (some ⟨w.heap.size, 0, none⟩)) := (Fr.cell hL.fr (p := ⟨w1.heap.size, 0, none⟩) hpl (fun x => x)).trans hRR.ptr
        have hsz3 : wr.heap.size + 2 < W3.heap.size := lt_of_block hL.off
        have hAF : wr.heap.size + 1 ∉ F := fun hm => by have := HREP.out.below _ hm; omega
        have hi3 : i ≤ 300 := by omega
        have hstep : (∃ r t st', mStep st steps[i] off = some (r, t, st')) ∨ mStep st steps[i] off = none := by
          cases mStep st steps[i] off with
          | none => exact .inr rfl
          | some x => exact .inl ⟨x.1, x.2.1, x.2.2, rfl⟩
        have HSTEP := Lib.hid hstep
        have hO3 : W3.cell? ⟨wr.heap.size + 1 + 1, 0, none⟩ = some (.int .u32 off) := by rw [cell_of (show W3.heap[wr.heap.size + 1 + 1]? = _ from hL.off)]; rfl
        have HOO := Lib.hid hO3
        have HPW := Lib.hid hPW
        have HSZ3 := Lib.hid hsz3
        have HAF := Lib.hid hAF
        clear hRR hL hPW hsz3 hAF hstep hO3
        rcases HSTEP.out with ⟨r, t, st', hm⟩ | hm
        · have HM := Lib.hid hm
          rw [← HS.out] at hm
          have HC := Lib.hid (thrown_b_ok w1.heap.size w.heap.size wr.heap.size (wr.heap.size + 1 + 1) (wr.heap.size + 1) F st st' _ off i r t _ _ _ _ W3 (HREP.out.keep HL.out.fr (fun _ _ x => x)) HR.out.inv hi3 HOK.out.1 HOK.out.2.1 HOK.out.2.2 hm (by have := HSZ3.out; omega) HPW.out HL.out.step (by have := HSZ3.out; omega) HOO.out HL.out.ans HAF.out)
          clear hm
          go_wp2_with fail
          refine HC.out.mono ?_
          rintro e w' ⟨rfl, F', hb, hf, hF, hA'⟩
          have k0 : w'.cell? ⟨wr.heap.size + 1, 0, none⟩ = some (.int .u32 r) := by rw [cell_of hA']; rfl
          have k1 : w'.cell? ⟨wr.heap.size + 1, 1, none⟩ = some (.int .u32 0) := by rw [cell_of hA']; rfl
          have k2 : w'.cell? ⟨wr.heap.size + 1, 2, none⟩ = some (.string (strOf t)) := by rw [cell_of hA']; rfl
          have k3 : w'.cell? ⟨wr.heap.size + 1, 3, none⟩ = some (.bool false) := by rw [cell_of hA']; rfl
          have kf := frozen_of hA' 1
          have kp : w'.cell? ⟨w1.heap.size, 0, none⟩ = some (.pointer (some ⟨w.heap.size, 0, none⟩)) := (Fr.cell hf (p := ⟨w1.heap.size, 0, none⟩) (by show w1.heap.size < W3.heap.size; have := HSZ3.out; omega) (fun h => by rcases h with h | h; exact HR.out.pF h; have h : w1.heap.size = wr.heap.size + 1 := h; omega)).trans HPW.out
          have hof := Offset_b w.heap.size F' st' w' hb
          obtain ⟨ol, hol⟩ : ∃ ol, ol = st'.m.bytes.length := ⟨_, rfl⟩
          rw [← hol] at hof
          obtain ⟨ST, hST⟩ : ∃ ST, ST = strOf t := ⟨_, rfl⟩
          rw [← hST] at k2
          have hsw := hf.size
          have HSW : RowKit.Hid (wr.heap.size + 2 < w'.heap.size) := Lib.hid (by have := HSZ3.out; omega)
          have HOF := Lib.hid hof
          have HOL := Lib.hid hol
          have HSTT := Lib.hid hST
          have HB := Lib.hid hb
          have HF := Lib.hid hf
          have HFF := Lib.hid hF
          have h5 : ∀ n2, Fr (fun k => k = wr.heap.size + 1) w' ((w'.drewN n2).setCell ⟨wr.heap.size + 1, 1, none⟩ (.int .u32 ol)) := fun n2 => ((Fr.refl (fun k => k = wr.heap.size + 1) w').drewN n2).setCell (fun _ => rfl) _
          have hown5 := fun n2 =>
            Fr.ownZ HR.out.row (S := fun k => k ∈ F ∨ k = wr.heap.size + 1) (((HL.out.fr.mono (S' := fun k => k ∈ F ∨ k = wr.heap.size + 1) (fun _ _ x => x.elim)).trans2 hf (fun _ _ h => h)).trans2 (h5 n2) (fun k hk h => .inr h)) (fun k hk h => by
              have h1 := own_block_lt HR.out.row k hk
              rcases h with h | h
              · exact (HR.out.rowF k hk).1 h
              · omega)
          have HOWN5 := Lib.hid hown5
          have H5 := Lib.hid h5
          clear hb hf hF hA' hof hol hST hsw h5 hown5
          go_wp2_with fail
          refine HOF.out.mono ?_
          rintro e w2 ⟨rfl, n2, rfl⟩
          have hownn := HOWN5.out n2
          go_wp2_with (at_builtin; refine wpList_append_own_at _ rfl (.tmp 49) (.tmp 51) 30 rfl w.heap.size 34 i0 (.agg #[.int .u32 0, .int .u32 0, .string ⟨#[]⟩, .bool false]) 4 32 Tryz.underlying30 hi hz0 hz1 hz2 rfl (by decide) _ _ _ rfl (hownn.alloc _) ⟨w'.heap.size, 0, none⟩ 1 1 [.int .u32 r, .int .u32 ol, .string ST, .bool false] rfl rfl (newCells _ _ _ _ _ _ _ (by simp [World.setCell])) (by intro u hu; simp at hu; rcases hu with rfl | rfl | rfl | rfl <;> rfl) (by unfold maxLen; omega) (by omega) (by have := HSW.out; have := HR.out.fr.size; simp [World.setCell]; omega) ?_; intro v3 w3 hown3 hgrow3 hnil3 hat3)
          go_roundw
          case rel =>
            refine ⟨i + 1, by omega, by go_num, brnd_step HR.out hlt (by omega) HL.out.fr HSZ3.out HB.out HF.out HFF.out (H5.out n2) hgrow3 hat3 ?_ HM.out HOK.out HRUN.out HNX.out HS.out⟩
            rw [← HOL.out, bansC, ← HSTT.out]
            exact hown3
          case measure => simp [intOf]; omega
        · have HM := Lib.hid hm
          rw [← HS.out] at hm
          have HC := Lib.hid (thrown_b_falls w1.heap.size w.heap.size wr.heap.size (wr.heap.size + 1 + 1) (wr.heap.size + 1) F st _ off i W3 (HREP.out.keep HL.out.fr (fun _ _ x => x)) HR.out.inv hi3 HOK.out.1 HOK.out.2.1 HOK.out.2.2 hm (by have := HSZ3.out; omega) HPW.out HL.out.step (by have := HSZ3.out; omega) HOO.out)
          clear hm
          go_wp2_with fail
          refine HC.out.mono ?_
          rintro e w' ⟨rfl, hf⟩
          have hfw : Fr (fun k => k ∈ F) wr w' := (HL.out.fr.mono (S' := fun k => k ∈ F) (fun _ _ x => x.elim)).trans2 hf (fun _ _ h => h)
          have hownn := Fr.ownZ HR.out.row hfw (fun k hk => (HR.out.rowF k hk).1)
          have HFW := Lib.hid hfw
          have hswz := hfw.size
          have hwz := HR.out.fr.size
          have HSW : RowKit.Hid (w.heap.size ≤ w'.heap.size) := Lib.hid (by omega)
          clear hf hfw hswz hwz
          go_wp2_with (at_builtin; refine wpList_append_own_at _ rfl (.tmp 42) (.tmp 44) 30 rfl w.heap.size 34 i0 (.agg #[.int .u32 0, .int .u32 0, .string ⟨#[]⟩, .bool false]) 4 32 Tryz.underlying30 hi hz0 hz1 hz2 rfl (by decide) _ _ _ rfl (hownn.alloc _) ⟨w'.heap.size, 0, none⟩ 1 1 (bansC BAns.dead) rfl rfl (newCells _ _ _ _ _ _ _ rfl) (by intro u hu; simp [bansC] at hu; rcases hu with rfl | rfl | rfl | rfl <;> rfl) (by unfold maxLen; omega) (by omega) (by have := HSW.out; simp; omega) ?_; intro v3 w3 hown3 hgrow3 hnil3 hat3)
          go_ret2
          have hr := HRES.out.trans HR.out.run
          rw [HRUN.out, HS.out, HM.out] at hr
          rw [hr]
          refine ⟨_, rfl, ?_, ?_⟩
          · rw [List.length_append, HLEN.out, List.flatMap_append]
            simpa using hown3
          · have hg := grown_fr hgrow3
            refine ((HR.out.fr.trans2 HFW.out (fun k hk h => absurd hk (by have := HR.out.new k h; omega))).alloc _).trans2 (S := fun _ => False) hg (fun k hk h => ?_)
            have := (own_block_lt HR.out.row k h.symm).1
            omega
    · obtain rfl : i = steps.length := by omega
      have hRR := HR.out
      have hrun := hRR.run
      rw [List.drop_of_length_le (Nat.le_refl _)] at hrun
      have hres2 := HRES.out.trans hrun
      have HR2 := Lib.hid hres2
      have hptr := hRR.ptr
      have hrow := hRR.row
      have hlen1 := hRR.len
      have hfr := hRR.fr
      obtain ⟨Y, V, G, M, r, c, hF, hb, ho⟩ := hRR.rep
      have c0 : wr.cell? ⟨w.heap.size, 0, none⟩ = some (.slice (some ⟨Y, 0, none⟩) (st.m.room + st.m.bytes.length) c.size) := by rw [cell_of hb.hb]; rfl
      have hfit := hb.fit
      have hlim := hb.lim
      have hsl := fun w' => run_slice_from (P := Tryz.prog) Tryz.underlying49 sizeU8b Y 0 (st.m.room + st.m.bytes.length) c.size .u32 (st.m.room : Int) st.m.room rfl (by omega) w'
      rw [show st.m.room + st.m.bytes.length - st.m.room = st.m.bytes.length by omega] at hsl
      have hmem : Mem wr Y (sOff 0 st.m.room c.size) st.m.bytes := by
        by_cases hc : st.m.room < c.size
        · rw [sOff_lt hc, Nat.zero_add]; exact hb.mem
        · intro k x hx
          have := (List.getElem?_eq_some_iff.1 hx).1
          omega
      obtain ⟨o, hoo⟩ : ∃ o, o = sOff 0 st.m.room c.size := ⟨_, rfl⟩
      rw [← hoo] at hsl hmem
      have HH := Lib.hid (fun nq => Head_calls w.heap.size Y r st.m.room st.m.least st.m.bytes c (wr.drewN nq) (hb.drewN nq))
      obtain ⟨rm, hrm⟩ : ∃ rm, rm = st.m.room := ⟨_, rfl⟩
      obtain ⟨len, hlen2⟩ : ∃ len, len = st.m.bytes.length := ⟨_, rfl⟩
      rw [← hrm] at HH
      rw [← hrm, ← hlen2] at c0 hsl hfit hlim
      have hcv := fun nq => run_bytes_string (P := Tryz.prog) (w := wr.drewN nq) (src := 49) (dst := 9) (cap := c.size - rm) hmem hlen2.symm Tryz.underlying49 Tryz.underlying5 Tryz.underlying9
      obtain ⟨SS, hSS⟩ : ∃ SS, SS = strOf st.m.bytes := ⟨_, rfl⟩
      rw [← hSS] at hcv
      have HSS := Lib.hid hSS
      have HROW := Lib.hid hrow
      have HLEN := Lib.hid hlen1
      have HFR := Lib.hid hfr
      clear hRR hrun hres2 hrow hlen1 hfr hF hb ho hmem hoo hrm hlen2 hSS
      go_wp2_with fail
      go_quiet ((go_at_call 33; exact quiet_same2 (HH.out _)))
      go_wp2_with fail
      go_ret2
      rw [HR2.out, HSS.out]
      refine ⟨_, rfl, ?_, HFR.out.drewN _⟩
      show World.ownsRow _ _ _ _ _ an.length _
      rw [HLEN.out]
      exact HROW.out
end Go.Proofs.YtfplgggepoaajaaGreat
