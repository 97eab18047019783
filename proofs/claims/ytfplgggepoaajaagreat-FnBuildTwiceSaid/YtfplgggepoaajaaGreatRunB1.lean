/- impl.Script's function value, called by thrown: one step, its answer in a variable; or a panic that is caught. -/
import Derived.Test.YtfplgggepoaajaaGreatMStep3
import Derived.Test.YtfplgggepoaajaaGreatThrown
namespace Go.Proofs.YtfplgggepoaajaaGreat
open Go.RowKit
set_option linter.unusedVariables false
set_option linter.unusedSimpArgs false

theorem load11 {w : World} {S : Nat} (s : BS) (hS : w.heap[S]? = some (.cells (bsC s).toArray 57)) : ∀ j v, (bsC s)[j]? = some v → w.cell? ⟨S, j, none⟩ = some v := by
  intro j v hv
  rw [cell_of hS]; simpa using hv
set_option maxRecDepth 20000 in
set_option maxHeartbeats 4000000 in
theorem brun1_ok (P b S O A : Nat) (F : List Nat) (st st' : BSt) (s : BS) (off i r : Nat) (t : List UInt8) (x0 x1 x2 x3 : Value) (w : World) (h : BRep w b F st) (hi : StInv st i) (hi3 : i ≤ 300) (hs : SOK s) (hp : SafeS st s) (ho : off < 2 ^ 32) (e : mStep st s off = some (r, t, st'))
    (hP : w.cell? ⟨P, 0, none⟩ = some (.pointer (some ⟨b, 0, none⟩))) (hS : w.heap[S]? = some (.cells (bsC s).toArray 57)) (hO : w.cell? ⟨O, 0, none⟩ = some (.int .u32 off)) (hA : w.heap[A]? = some (.cells #[x0, x1, x2, x3] 34)) (hAF : A ∉ F) :
    Calls Tryz.prog 30 #[.pointer (some ⟨P, 0, none⟩), .pointer (some ⟨S, 0, none⟩), .pointer (some ⟨O, 0, none⟩), .pointer (some ⟨A, 0, none⟩)] w fun e w' => e = .returned (.tuple #[]) ∧
      ∃ F', BRep w' b F' st' ∧ Fr (fun k => k ∈ F ∨ k = A) w w' ∧ (∀ k ∈ F', k ∈ F ∨ w.heap.size ≤ k) ∧ w'.heap[A]? = some (.cells #[.int .u32 r, .int .u32 0, .string (strOf t), .bool false] 34) := by
  have HC := buildStep_calls b F st s off i w h hi hi3 hs hp ho
  rw [e] at HC
  obtain ⟨op, kind, slot, num, els, off0, ref, size, more, by_, text⟩ := s
  have hl := load11 _ hS
  have s0 := hl 0 _ rfl
  have s1 := hl 1 _ rfl
  have s2 := hl 2 _ rfl
  have s3 := hl 3 _ rfl
  have s4 := hl 4 _ rfl
  have s5 := hl 5 _ rfl
  have s6 := hl 6 _ rfl
  have s7 := hl 7 _ rfl
  have s8 := hl 8 _ rfl
  have s9 := hl 9 _ rfl
  have s10 := hl 10 _ rfl
  unfold bsC at HC
  dsimp only at HC s0 s1 s2 s3 s4 s5 s6 s7 s8 s9 s10
  obtain ⟨T, hT⟩ : ∃ T, T = strOf text := ⟨_, rfl⟩
  rw [← hT] at HC s10
  have HCC := Lib.hid HC
  have HA := Lib.hid hA
  have HAL := Lib.hid (lt_of_block hA)
  have HAF := Lib.hid hAF
  clear h hi hs hp e hS hA hAF HC hl hT ho
  go_enter Tryz.func30, Tryz.ntmps30
  go_wp2_with fail
  refine HCC.out.mono ?_
  rintro e w' ⟨rfl, F1, hb1, ha1⟩
  have hb := (ha1.1.block A HAL.out HAF.out).trans HA.out
  have c0 : w'.cell? ⟨A, 0, none⟩ = some x0 := by rw [cell_of hb]; rfl
  have c1 : w'.cell? ⟨A, 1, none⟩ = some x1 := by rw [cell_of hb]; rfl
  have c2 : w'.cell? ⟨A, 2, none⟩ = some x2 := by rw [cell_of hb]; rfl
  have c3 : w'.cell? ⟨A, 3, none⟩ = some x3 := by rw [cell_of hb]; rfl
  have f0 := frozen_of hb 0
  have f1 := frozen_of hb 1
  have f2 := frozen_of hb 2
  have f3 := frozen_of hb 3
  have HB := Lib.hid hb
  have HB1 := Lib.hid hb1
  have HA1 := Lib.hid ha1
  clear hb hb1 ha1
  unfold bansV
  go_wp2_with fail
  go_end0
  have hfA : Fr (fun k => k = A) w' ((((w'.setCell ⟨A, 0, none⟩ (.int .u32 r)).setCell ⟨A, 1, none⟩ (.int .u32 0)).setCell ⟨A, 2, none⟩ (.string (strOf t))).setCell ⟨A, 3, none⟩ (.bool false)) := (Fr.refl _ _).set4 _ _ _ _
  refine ⟨rfl, F1, HB1.out.keep hfA (fun k hk ee => ?_), ?_, fun k hk => HA1.out.2 k hk, ?_⟩
  · have := HAL.out
    rcases HA1.out.2 k hk with h | h
    · exact HAF.out (ee ▸ h)
    · omega
  · exact (HA1.out.1.mono (fun _ _ h => .inl h)).trans (hfA.mono (fun _ _ h => .inr h))
  · exact set4 _ _ _ _ _ _ _ _ HB.out rfl
theorem brun1_falls (P b S O A : Nat) (F : List Nat) (st : BSt) (s : BS) (off i : Nat) (w : World) (h : BRep w b F st) (hi : StInv st i) (hi3 : i ≤ 300) (hs : SOK s) (hp : SafeS st s) (ho : off < 2 ^ 32) (e : mStep st s off = none)
    (hP : w.cell? ⟨P, 0, none⟩ = some (.pointer (some ⟨b, 0, none⟩))) (hS : w.heap[S]? = some (.cells (bsC s).toArray 57)) (hO : w.cell? ⟨O, 0, none⟩ = some (.int .u32 off)) :
    Calls Tryz.prog 30 #[.pointer (some ⟨P, 0, none⟩), .pointer (some ⟨S, 0, none⟩), .pointer (some ⟨O, 0, none⟩), .pointer (some ⟨A, 0, none⟩)] w (Falls2 (fun k => k ∈ F) w) := by
  have HC := buildStep_calls b F st s off i w h hi hi3 hs hp ho
  rw [e] at HC
  obtain ⟨op, kind, slot, num, els, off0, ref, size, more, by_, text⟩ := s
  have hl := load11 _ hS
  have s0 := hl 0 _ rfl
  have s1 := hl 1 _ rfl
  have s2 := hl 2 _ rfl
  have s3 := hl 3 _ rfl
  have s4 := hl 4 _ rfl
  have s5 := hl 5 _ rfl
  have s6 := hl 6 _ rfl
  have s7 := hl 7 _ rfl
  have s8 := hl 8 _ rfl
  have s9 := hl 9 _ rfl
  have s10 := hl 10 _ rfl
  unfold bsC at HC
  dsimp only at HC s0 s1 s2 s3 s4 s5 s6 s7 s8 s9 s10
  obtain ⟨T, hT⟩ : ∃ T, T = strOf text := ⟨_, rfl⟩
  rw [← hT] at HC s10
  have HCC := Lib.hid HC
  clear h hi hs hp e hS HC hl hT ho
  go_enter Tryz.func30, Tryz.ntmps30
  go_wp2_with fail
  refine HCC.out.mono ?_
  rintro e w' ⟨⟨u, x, rfl⟩, hf⟩
  exact ⟨rfl, ⟨u, x, rfl⟩, hf⟩

theorem enterScr1 (caps : Array Value) (w : World) : (callFunc 30 caps).run Tryz.prog w = .ok (.enter 30 caps) w := by kernel_rfl
/-- The function value called by thrown: it returns. -/
theorem thrown_b_ok (P b S O A : Nat) (F : List Nat) (st st' : BSt) (s : BS) (off i r : Nat) (t : List UInt8) (x0 x1 x2 x3 : Value) (w : World) (h : BRep w b F st) (hi : StInv st i) (hi3 : i ≤ 300) (hs : SOK s) (hp : SafeS st s) (ho : off < 2 ^ 32) (e : mStep st s off = some (r, t, st'))
    (hPl : P < w.heap.size) (hP : w.cell? ⟨P, 0, none⟩ = some (.pointer (some ⟨b, 0, none⟩))) (hS : w.heap[S]? = some (.cells (bsC s).toArray 57)) (hOl : O < w.heap.size) (hO : w.cell? ⟨O, 0, none⟩ = some (.int .u32 off)) (hA : w.heap[A]? = some (.cells #[x0, x1, x2, x3] 34)) (hAF : A ∉ F) :
    Calls Tryz.prog 29 #[.func (.func 30) #[] #[.pointer (some ⟨P, 0, none⟩), .pointer (some ⟨S, 0, none⟩), .pointer (some ⟨O, 0, none⟩), .pointer (some ⟨A, 0, none⟩)]] w fun e w' => e = .returned (.bool false) ∧
      ∃ F', BRep w' b F' st' ∧ Fr (fun k => k ∈ F ∨ k = A) w w' ∧ (∀ k ∈ F', k ∈ F ∨ w.heap.size ≤ k) ∧ w'.heap[A]? = some (.cells #[.int .u32 r, .int .u32 0, .string (strOf t), .bool false] 34) := by
  have hAl := lt_of_block hA
  have hSl := lt_of_block hS
  have hfr : Fr0 w (w.alloc thrownVar) := (Fr.refl _ w).alloc _
  have h1 := brun1_ok P b S O A F st st' s off i r t x0 x1 x2 x3 (w.alloc thrownVar) (h.keep hfr (fun _ _ x => x)) hi hi3 hs hp ho e
    ((Fr.cell hfr hPl (fun x => x)).trans hP) ((heap_alloc_old _ _ _ hSl).trans hS) ((Fr.cell hfr hOl (fun x => x)).trans hO) ((heap_alloc_old _ _ _ hAl).trans hA) hAF
  refine (thrown_ok (S := fun k => k ∈ F ∨ k = A) (R := fun w' => ∃ F', BRep w' b F' st' ∧ Fr (fun k => k ∈ F ∨ k = A) (w.alloc thrownVar) w' ∧ (∀ k ∈ F', k ∈ F ∨ (w.alloc thrownVar).heap.size ≤ k) ∧ w'.heap[A]? = some (.cells #[.int .u32 r, .int .u32 0, .string (strOf t), .bool false] 34)) (fun w => enterScr1 _ w) h1 (fun _ h => by obtain ⟨_, _, h, _⟩ := h; exact h) (fun hh => by rcases hh with hh | hh; have := h.below _ hh; omega; omega)).mono ?_
  rintro e w' ⟨rfl, w1, ⟨F', hb, hf, hF, hA'⟩, hf2⟩
  have hsz0 : (w.alloc thrownVar).heap.size = w.heap.size + 1 := by simp
  have hsz := hf.size
  refine ⟨rfl, F', hb.keep hf2 (fun k hk ee => ?_), ((hfr.mono (S' := fun k => k ∈ F ∨ k = A) (fun _ _ x => x.elim)).trans2 hf (fun _ _ h => h)).trans2 hf2 (fun k hk ee => absurd hk (by omega)), fun k hk => ?_, (hf2.block A (by omega) (by omega)).trans hA'⟩
  · rcases hF k hk with h' | h'
    · have := h.below _ h'; omega
    · omega
  · rcases hF k hk with h' | h'
    · exact .inl h'
    · right; omega
/-- It panics. -/
theorem thrown_b_falls (P b S O A : Nat) (F : List Nat) (st : BSt) (s : BS) (off i : Nat) (w : World) (h : BRep w b F st) (hi : StInv st i) (hi3 : i ≤ 300) (hs : SOK s) (hp : SafeS st s) (ho : off < 2 ^ 32) (e : mStep st s off = none)
    (hPl : P < w.heap.size) (hP : w.cell? ⟨P, 0, none⟩ = some (.pointer (some ⟨b, 0, none⟩))) (hS : w.heap[S]? = some (.cells (bsC s).toArray 57)) (hOl : O < w.heap.size) (hO : w.cell? ⟨O, 0, none⟩ = some (.int .u32 off)) :
    Calls Tryz.prog 29 #[.func (.func 30) #[] #[.pointer (some ⟨P, 0, none⟩), .pointer (some ⟨S, 0, none⟩), .pointer (some ⟨O, 0, none⟩), .pointer (some ⟨A, 0, none⟩)]] w fun e w' => e = .returned (.bool true) ∧ Fr (fun k => k ∈ F) w w' := by
  have hSl := lt_of_block hS
  have hfr : Fr0 w (w.alloc thrownVar) := (Fr.refl _ w).alloc _
  have h1 := brun1_falls P b S O A F st s off i (w.alloc thrownVar) (h.keep hfr (fun _ _ x => x)) hi hi3 hs hp ho e
    ((Fr.cell hfr hPl (fun x => x)).trans hP) ((heap_alloc_old _ _ _ hSl).trans hS) ((Fr.cell hfr hOl (fun x => x)).trans hO)
  refine (thrown_panics (S := fun k => k ∈ F) (R := fun w' => Fr (fun k => k ∈ F) (w.alloc thrownVar) w') (fun w => enterScr1 _ w) h1 (fun _ h => h) (fun hh => by have := h.below _ hh; omega)).mono ?_
  rintro e w' ⟨rfl, w1, hf, hf2⟩
  have hsz := hf.size
  have hsz0 : (w.alloc thrownVar).heap.size = w.heap.size + 1 := by simp
  exact ⟨rfl, ((hfr.mono (S' := fun k => k ∈ F) (fun _ _ x => x.elim)).trans2 hf (fun _ _ h => h)).trans2 hf2 (fun k hk ee => absurd hk (by omega))⟩
end Go.Proofs.YtfplgggepoaajaaGreat
