/- impl.buildStep: the steps that convert texts. -/
import Derived.Test.YtfplgggepoaajaaGreatBStep
import Derived.Laws.IdiomStrings
namespace Go.Proofs.YtfplgggepoaajaaGreat
open Go.RowKit
set_option linter.unusedVariables false
set_option linter.unusedSimpArgs false

/-- '[]byte(s)': new bytes. -/
theorem conv_bytes (W : World) (text : List UInt8) : ∃ cap W2, (convert 9 49 (.string (strOf text))).run Tryz.prog W = .ok (.slice (some ⟨W.heap.size, 0, none⟩) text.length cap) W2 ∧ Fr0 W W2 ∧ Mem W2 W.heap.size 0 text ∧ W.heap.size < W2.heap.size := by
  have h := run_bytes_of_string (P := Tryz.prog) W 9 49 5 (strOf text) Tryz.underlying9 Tryz.underlying49 Tryz.underlying5
  rw [strOf_size] at h
  refine ⟨_, _, h, ((Fr.refl _ W).drew).alloc _, fun i x hx => ?_, by simp⟩
  rw [Nat.zero_add, cell_of (show (World.alloc W.drew _).heap[W.heap.size]? = _ from heap_alloc_new W.drew _)]
  have hi : i < text.length := (List.getElem?_eq_some_iff.1 hx).1
  unfold bytesRow
  rw [Array.getElem?_append_left (by simp [strOf]; exact hi)]
  simp [strOf, hx]

set_option maxRecDepth 20000 in
set_option maxHeartbeats 2000000 in
theorem bstep_13 (b : Nat) (F : List Nat) (st : BSt) (kind slot ref size more by_ : Int) (num els off0 off : Nat) (text : List UInt8) (w : World) (h : BRep w b F st) (o : Option (Nat × BSt))
    (hc : ∀ W sv, BRep W b F st → Src W F sv text → Calls Tryz.prog 61 #[.pointer (some ⟨b, 0, none⟩), sv] W (BRes W b F (numRes o))) :
    Calls Tryz.prog 31 #[.pointer (some ⟨b, 0, none⟩), .agg #[.int .u8 13, .int .u8 kind, .int .i64 slot, .int .u64 num, .int .u64 els, .int .u32 off0, .int .i64 ref, .int .i64 size, .int .i64 more, .int .i64 by_, .string (strOf text)], .int .u32 off] w (ARes w b F (numN o)) := by
  obtain ⟨S, hS⟩ : ∃ S, S = strOf text := ⟨_, rfl⟩
  rw [← hS]
  have hW : Fr0 w ((w.alloc (.cells #[.int .u8 13, .int .u8 kind, .int .i64 slot, .int .u64 num, .int .u64 els, .int .u32 off0, .int .i64 ref, .int .i64 size, .int .i64 more, .int .i64 by_, .string S] 57)).alloc (.cells #[.int .u32 0, .int .u32 0, .string ⟨#[]⟩, .bool false] 34)) := ((Fr.refl _ w).alloc _).alloc _
  have hbW := h.keep hW (fun _ _ x => x)
  have hres : ((w.alloc (.cells #[.int .u8 13, .int .u8 kind, .int .i64 slot, .int .u64 num, .int .u64 els, .int .u32 off0, .int .i64 ref, .int .i64 size, .int .i64 more, .int .i64 by_, .string S] 57)).alloc (.cells #[.int .u32 0, .int .u32 0, .string ⟨#[]⟩, .bool false] 34)).heap[w.heap.size + 1]? = some (.cells #[.int .u32 0, .int .u32 0, .string ⟨#[]⟩, .bool false] 34) := by
    simp only [heap_alloc_get, size_alloc]; rw [if_pos trivial]
  have hWs : ((w.alloc (.cells #[.int .u8 13, .int .u8 kind, .int .i64 slot, .int .u64 num, .int .u64 els, .int .u32 off0, .int .i64 ref, .int .i64 size, .int .i64 more, .int .i64 by_, .string S] 57)).alloc (.cells #[.int .u32 0, .int .u32 0, .string ⟨#[]⟩, .bool false] 34)).heap.size = w.heap.size + 2 := by simp
  obtain ⟨cap, W2, hrun, hf2, hm2, hs2⟩ := conv_bytes ((w.alloc (.cells #[.int .u8 13, .int .u8 kind, .int .i64 slot, .int .u64 num, .int .u64 els, .int .u32 off0, .int .i64 ref, .int .i64 size, .int .i64 more, .int .i64 by_, .string S] 57)).alloc (.cells #[.int .u32 0, .int .u32 0, .string ⟨#[]⟩, .bool false] 34)) text
  rw [← hS] at hrun
  rw [hWs] at hrun hm2 hs2
  have hbl := h.below
  have hb2 := hbW.keep hf2 (fun _ _ x => x)
  have hsrc : Src W2 F (.slice (some ⟨w.heap.size + 2, 0, none⟩) text.length cap) text := ⟨w.heap.size + 2, 0, cap, rfl, hs2, fun hm => by have := hbl _ hm; omega, hm2⟩
  have hres2 := (hf2.block (w.heap.size + 1) (by rw [hWs]; omega) (fun x => x)).trans hres
  have hWs2 : w.heap.size + 1 < W2.heap.size := by omega
  have HFL := Lib.hid hbl
  have HC := Lib.hid (hc _ _ hb2 hsrc)
  have HRES := Lib.hid hres2
  have HW := Lib.hid (hW.trans hf2)
  have HWS := Lib.hid hWs2
  clear h hc hbW hW hres hWs hf2 hm2 hs2 hbl hb2 hsrc hres2 hWs2 hS
  obtain ⟨tl, htl⟩ : ∃ tl, tl = text.length := ⟨_, rfl⟩
  rw [← htl] at hrun HC
  clear htl
  cases o with
  | none =>
    go_enter Tryz.func31, Tryz.ntmps31
    go_wp2_with fail
    refine HC.out.mono ?_
    rintro e w1 ⟨⟨u, v, rfl⟩, hf⟩
    exact ⟨rfl, bstep_falls HW.out ⟨⟨u, v, rfl⟩, hf⟩⟩
  | some p =>
    obtain ⟨r, st1⟩ := p
    go_enter Tryz.func31, Tryz.ntmps31
    go_wp2_with fail
    refine HC.out.mono ?_
    rintro e w1 ⟨rfl, F1, hb1, ha1⟩
    have hnF : ¬ (w.heap.size + 1 ∈ F) := fun hm => by have := HFL.out _ hm; omega
    have hb3 := (ha1.1.block (w.heap.size + 1) HWS.out hnF).trans HRES.out
    have e0 : w1.cell? ⟨w.heap.size + 1, 0, none⟩ = some (.int .u32 0) := by rw [cell_of hb3]; rfl
    have e1 : w1.cell? ⟨w.heap.size + 1, 1, none⟩ = some (.int .u32 0) := by rw [cell_of hb3]; rfl
    have e2 : w1.cell? ⟨w.heap.size + 1, 2, none⟩ = some (.string ⟨#[]⟩) := by rw [cell_of hb3]; rfl
    have e3 : w1.cell? ⟨w.heap.size + 1, 3, none⟩ = some (.bool false) := by rw [cell_of hb3]; rfl
    have f0 := frozen_of hb3 0
    have f1 := frozen_of hb3 1
    have f2 := frozen_of hb3 2
    have f3 := frozen_of hb3 3
    have HB3 := Lib.hid hb3
    have HB1 := Lib.hid hb1
    have HA1 := Lib.hid ha1
    clear hb3 hb1 ha1 hnF hrun
    go_wp2_with fail
    exact bodyPost_ret (results_cell_row (P := Tryz.prog) rfl _ _ (w.heap.size + 1) 34 _ (0, 0) _ rfl (set4 _ _ _ _ _ _ _ _ (heap_setCell_same HB3.out 0 _) rfl) Tryz.underlying34 rfl infoBAns) rfl
      ⟨rfl, bstep_end HW.out HWS.out HFL.out HA1.out HB1.out (Fr.set4 ((Fr.refl (fun k => k = w.heap.size + 1) _).setCell (fun _ => rfl) _) _ _ _ _)⟩

set_option maxRecDepth 20000 in
set_option maxHeartbeats 2000000 in
theorem bstep_14 (b : Nat) (F : List Nat) (st : BSt) (kind slot ref size more by_ : Int) (num els off0 off : Nat) (text : List UInt8) (w : World) (h : BRep w b F st) (o : Option (Nat × BSt))
    (hc : ∀ W sv, BRep W b F st → Src W F sv text → Calls Tryz.prog 62 #[.pointer (some ⟨b, 0, none⟩), sv] W (BRes W b F (numRes o))) :
    Calls Tryz.prog 31 #[.pointer (some ⟨b, 0, none⟩), .agg #[.int .u8 14, .int .u8 kind, .int .i64 slot, .int .u64 num, .int .u64 els, .int .u32 off0, .int .i64 ref, .int .i64 size, .int .i64 more, .int .i64 by_, .string (strOf text)], .int .u32 off] w (ARes w b F (numN o)) := by
  obtain ⟨S, hS⟩ : ∃ S, S = strOf text := ⟨_, rfl⟩
  rw [← hS]
  have hW : Fr0 w ((w.alloc (.cells #[.int .u8 14, .int .u8 kind, .int .i64 slot, .int .u64 num, .int .u64 els, .int .u32 off0, .int .i64 ref, .int .i64 size, .int .i64 more, .int .i64 by_, .string S] 57)).alloc (.cells #[.int .u32 0, .int .u32 0, .string ⟨#[]⟩, .bool false] 34)) := ((Fr.refl _ w).alloc _).alloc _
  have hbW := h.keep hW (fun _ _ x => x)
  have hres : ((w.alloc (.cells #[.int .u8 14, .int .u8 kind, .int .i64 slot, .int .u64 num, .int .u64 els, .int .u32 off0, .int .i64 ref, .int .i64 size, .int .i64 more, .int .i64 by_, .string S] 57)).alloc (.cells #[.int .u32 0, .int .u32 0, .string ⟨#[]⟩, .bool false] 34)).heap[w.heap.size + 1]? = some (.cells #[.int .u32 0, .int .u32 0, .string ⟨#[]⟩, .bool false] 34) := by
    simp only [heap_alloc_get, size_alloc]; rw [if_pos trivial]
  have hWs : ((w.alloc (.cells #[.int .u8 14, .int .u8 kind, .int .i64 slot, .int .u64 num, .int .u64 els, .int .u32 off0, .int .i64 ref, .int .i64 size, .int .i64 more, .int .i64 by_, .string S] 57)).alloc (.cells #[.int .u32 0, .int .u32 0, .string ⟨#[]⟩, .bool false] 34)).heap.size = w.heap.size + 2 := by simp
  obtain ⟨cap, W2, hrun, hf2, hm2, hs2⟩ := conv_bytes ((w.alloc (.cells #[.int .u8 14, .int .u8 kind, .int .i64 slot, .int .u64 num, .int .u64 els, .int .u32 off0, .int .i64 ref, .int .i64 size, .int .i64 more, .int .i64 by_, .string S] 57)).alloc (.cells #[.int .u32 0, .int .u32 0, .string ⟨#[]⟩, .bool false] 34)) text
  rw [← hS] at hrun
  rw [hWs] at hrun hm2 hs2
  have hbl := h.below
  have hb2 := hbW.keep hf2 (fun _ _ x => x)
  have hsrc : Src W2 F (.slice (some ⟨w.heap.size + 2, 0, none⟩) text.length cap) text := ⟨w.heap.size + 2, 0, cap, rfl, hs2, fun hm => by have := hbl _ hm; omega, hm2⟩
  have hres2 := (hf2.block (w.heap.size + 1) (by rw [hWs]; omega) (fun x => x)).trans hres
  have hWs2 : w.heap.size + 1 < W2.heap.size := by omega
  have HFL := Lib.hid hbl
  have HC := Lib.hid (hc _ _ hb2 hsrc)
  have HRES := Lib.hid hres2
  have HW := Lib.hid (hW.trans hf2)
  have HWS := Lib.hid hWs2
  clear h hc hbW hW hres hWs hf2 hm2 hs2 hbl hb2 hsrc hres2 hWs2 hS
  obtain ⟨tl, htl⟩ : ∃ tl, tl = text.length := ⟨_, rfl⟩
  rw [← htl] at hrun HC
  clear htl
  cases o with
  | none =>
    go_enter Tryz.func31, Tryz.ntmps31
    go_wp2_with fail
    refine HC.out.mono ?_
    rintro e w1 ⟨⟨u, v, rfl⟩, hf⟩
    exact ⟨rfl, bstep_falls HW.out ⟨⟨u, v, rfl⟩, hf⟩⟩
  | some p =>
    obtain ⟨r, st1⟩ := p
    go_enter Tryz.func31, Tryz.ntmps31
    go_wp2_with fail
    refine HC.out.mono ?_
    rintro e w1 ⟨rfl, F1, hb1, ha1⟩
    have hnF : ¬ (w.heap.size + 1 ∈ F) := fun hm => by have := HFL.out _ hm; omega
    have hb3 := (ha1.1.block (w.heap.size + 1) HWS.out hnF).trans HRES.out
    have e0 : w1.cell? ⟨w.heap.size + 1, 0, none⟩ = some (.int .u32 0) := by rw [cell_of hb3]; rfl
    have e1 : w1.cell? ⟨w.heap.size + 1, 1, none⟩ = some (.int .u32 0) := by rw [cell_of hb3]; rfl
    have e2 : w1.cell? ⟨w.heap.size + 1, 2, none⟩ = some (.string ⟨#[]⟩) := by rw [cell_of hb3]; rfl
    have e3 : w1.cell? ⟨w.heap.size + 1, 3, none⟩ = some (.bool false) := by rw [cell_of hb3]; rfl
    have f0 := frozen_of hb3 0
    have f1 := frozen_of hb3 1
    have f2 := frozen_of hb3 2
    have f3 := frozen_of hb3 3
    have HB3 := Lib.hid hb3
    have HB1 := Lib.hid hb1
    have HA1 := Lib.hid ha1
    clear hb3 hb1 ha1 hnF hrun
    go_wp2_with fail
    exact bodyPost_ret (results_cell_row (P := Tryz.prog) rfl _ _ (w.heap.size + 1) 34 _ (0, 0) _ rfl (set4 _ _ _ _ _ _ _ _ (heap_setCell_same HB3.out 0 _) rfl) Tryz.underlying34 rfl infoBAns) rfl
      ⟨rfl, bstep_end HW.out HWS.out HFL.out HA1.out HB1.out (Fr.set4 ((Fr.refl (fun k => k = w.heap.size + 1) _).setCell (fun _ => rfl) _) _ _ _ _)⟩

set_option maxRecDepth 20000 in
set_option maxHeartbeats 2000000 in
theorem bstep_20 (b : Nat) (F : List Nat) (st : BSt) (kind slot ref size more by_ : Int) (num els off0 off : Nat) (text : List UInt8) (w : World) (h : BRep w b F st) (o : Option BSt)
    (hc : ∀ W sv, BRep W b F st → Src W F sv text → Calls Tryz.prog 68 #[.pointer (some ⟨b, 0, none⟩), .int .u32 off, sv] W (BRes W b F (unitRes o))) :
    Calls Tryz.prog 31 #[.pointer (some ⟨b, 0, none⟩), .agg #[.int .u8 20, .int .u8 kind, .int .i64 slot, .int .u64 num, .int .u64 els, .int .u32 off0, .int .i64 ref, .int .i64 size, .int .i64 more, .int .i64 by_, .string (strOf text)], .int .u32 off] w (ARes w b F (unitN o)) := by
  obtain ⟨S, hS⟩ : ∃ S, S = strOf text := ⟨_, rfl⟩
  rw [← hS]
  have hW : Fr0 w ((w.alloc (.cells #[.int .u8 20, .int .u8 kind, .int .i64 slot, .int .u64 num, .int .u64 els, .int .u32 off0, .int .i64 ref, .int .i64 size, .int .i64 more, .int .i64 by_, .string S] 57)).alloc (.cells #[.int .u32 0, .int .u32 0, .string ⟨#[]⟩, .bool false] 34)) := ((Fr.refl _ w).alloc _).alloc _
  have hbW := h.keep hW (fun _ _ x => x)
  have hres : ((w.alloc (.cells #[.int .u8 20, .int .u8 kind, .int .i64 slot, .int .u64 num, .int .u64 els, .int .u32 off0, .int .i64 ref, .int .i64 size, .int .i64 more, .int .i64 by_, .string S] 57)).alloc (.cells #[.int .u32 0, .int .u32 0, .string ⟨#[]⟩, .bool false] 34)).heap[w.heap.size + 1]? = some (.cells #[.int .u32 0, .int .u32 0, .string ⟨#[]⟩, .bool false] 34) := by
    simp only [heap_alloc_get, size_alloc]; rw [if_pos trivial]
  have hWs : ((w.alloc (.cells #[.int .u8 20, .int .u8 kind, .int .i64 slot, .int .u64 num, .int .u64 els, .int .u32 off0, .int .i64 ref, .int .i64 size, .int .i64 more, .int .i64 by_, .string S] 57)).alloc (.cells #[.int .u32 0, .int .u32 0, .string ⟨#[]⟩, .bool false] 34)).heap.size = w.heap.size + 2 := by simp
  obtain ⟨cap, W2, hrun, hf2, hm2, hs2⟩ := conv_bytes ((w.alloc (.cells #[.int .u8 20, .int .u8 kind, .int .i64 slot, .int .u64 num, .int .u64 els, .int .u32 off0, .int .i64 ref, .int .i64 size, .int .i64 more, .int .i64 by_, .string S] 57)).alloc (.cells #[.int .u32 0, .int .u32 0, .string ⟨#[]⟩, .bool false] 34)) text
  rw [← hS] at hrun
  rw [hWs] at hrun hm2 hs2
  have hbl := h.below
  have hb2 := hbW.keep hf2 (fun _ _ x => x)
  have hsrc : Src W2 F (.slice (some ⟨w.heap.size + 2, 0, none⟩) text.length cap) text := ⟨w.heap.size + 2, 0, cap, rfl, hs2, fun hm => by have := hbl _ hm; omega, hm2⟩
  have hres2 := (hf2.block (w.heap.size + 1) (by rw [hWs]; omega) (fun x => x)).trans hres
  have hWs2 : w.heap.size + 1 < W2.heap.size := by omega
  have HFL := Lib.hid hbl
  have HC := Lib.hid (hc _ _ hb2 hsrc)
  have HRES := Lib.hid hres2
  have HW := Lib.hid (hW.trans hf2)
  have HWS := Lib.hid hWs2
  clear h hc hbW hW hres hWs hf2 hm2 hs2 hbl hb2 hsrc hres2 hWs2 hS
  obtain ⟨tl, htl⟩ : ∃ tl, tl = text.length := ⟨_, rfl⟩
  rw [← htl] at hrun HC
  clear htl
  cases o with
  | none =>
    go_enter Tryz.func31, Tryz.ntmps31
    go_wp2_with fail
    refine HC.out.mono ?_
    rintro e w1 ⟨⟨u, v, rfl⟩, hf⟩
    exact ⟨rfl, bstep_falls HW.out ⟨⟨u, v, rfl⟩, hf⟩⟩
  | some p =>
    obtain st1 := p
    go_enter Tryz.func31, Tryz.ntmps31
    go_wp2_with fail
    refine HC.out.mono ?_
    rintro e w1 ⟨rfl, F1, hb1, ha1⟩
    have hnF : ¬ (w.heap.size + 1 ∈ F) := fun hm => by have := HFL.out _ hm; omega
    have hb3 := (ha1.1.block (w.heap.size + 1) HWS.out hnF).trans HRES.out
    have e0 : w1.cell? ⟨w.heap.size + 1, 0, none⟩ = some (.int .u32 0) := by rw [cell_of hb3]; rfl
    have e1 : w1.cell? ⟨w.heap.size + 1, 1, none⟩ = some (.int .u32 0) := by rw [cell_of hb3]; rfl
    have e2 : w1.cell? ⟨w.heap.size + 1, 2, none⟩ = some (.string ⟨#[]⟩) := by rw [cell_of hb3]; rfl
    have e3 : w1.cell? ⟨w.heap.size + 1, 3, none⟩ = some (.bool false) := by rw [cell_of hb3]; rfl
    have f0 := frozen_of hb3 0
    have f1 := frozen_of hb3 1
    have f2 := frozen_of hb3 2
    have f3 := frozen_of hb3 3
    have HB3 := Lib.hid hb3
    have HB1 := Lib.hid hb1
    have HA1 := Lib.hid ha1
    clear hb3 hb1 ha1 hnF hrun
    go_wp2_with fail
    exact bodyPost_ret (results_cell_row (P := Tryz.prog) rfl _ _ (w.heap.size + 1) 34 _ (0, 0) _ rfl (set4 _ _ _ _ _ _ _ _ (HB3.out) rfl) Tryz.underlying34 rfl infoBAns) rfl
      ⟨rfl, bstep_end HW.out HWS.out HFL.out HA1.out HB1.out (Fr.set4 (Fr.refl _ _) _ _ _ _)⟩

set_option maxRecDepth 20000 in
set_option maxHeartbeats 2000000 in
theorem bstep_22 (b : Nat) (F : List Nat) (st : BSt) (kind slot ref size more by_ : Int) (num els off0 off : Nat) (text : List UInt8) (w : World) (h : BRep w b F st) :
    Calls Tryz.prog 31 #[.pointer (some ⟨b, 0, none⟩), .agg #[.int .u8 22, .int .u8 kind, .int .i64 slot, .int .u64 num, .int .u64 els, .int .u32 off0, .int .i64 ref, .int .i64 size, .int .i64 more, .int .i64 by_, .string (strOf text)], .int .u32 off] w (ARes w b F (if st.fin then some (0, st.m.bytes, st) else none)) := by
  obtain ⟨S, hS⟩ : ∃ S, S = strOf text := ⟨_, rfl⟩
  rw [← hS]
  clear hS
  have hW : Fr0 w ((w.alloc (.cells #[.int .u8 22, .int .u8 kind, .int .i64 slot, .int .u64 num, .int .u64 els, .int .u32 off0, .int .i64 ref, .int .i64 size, .int .i64 more, .int .i64 by_, .string S] 57)).alloc (.cells #[.int .u32 0, .int .u32 0, .string ⟨#[]⟩, .bool false] 34)) := ((Fr.refl _ w).alloc _).alloc _
  have hbW := h.keep hW (fun _ _ x => x)
  have hres : ((w.alloc (.cells #[.int .u8 22, .int .u8 kind, .int .i64 slot, .int .u64 num, .int .u64 els, .int .u32 off0, .int .i64 ref, .int .i64 size, .int .i64 more, .int .i64 by_, .string S] 57)).alloc (.cells #[.int .u32 0, .int .u32 0, .string ⟨#[]⟩, .bool false] 34)).heap[w.heap.size + 1]? = some (.cells #[.int .u32 0, .int .u32 0, .string ⟨#[]⟩, .bool false] 34) := by
    simp only [heap_alloc_get, size_alloc]; rw [if_pos trivial]
  have hWs : w.heap.size + 1 < ((w.alloc (.cells #[.int .u8 22, .int .u8 kind, .int .i64 slot, .int .u64 num, .int .u64 els, .int .u32 off0, .int .i64 ref, .int .i64 size, .int .i64 more, .int .i64 by_, .string S] 57)).alloc (.cells #[.int .u32 0, .int .u32 0, .string ⟨#[]⟩, .bool false] 34)).heap.size := by simp
  have HFL := Lib.hid h.below
  have HRES := Lib.hid hres
  have HW := Lib.hid hW
  have HWS := Lib.hid hWs
  have HBW := Lib.hid hbW
  clear h hbW hW hres hWs
  by_cases hfin : st.fin = true
  · rw [if_pos hfin]
    have HC := Lib.hid (FinishedBytes_ok b F st _ HBW.out hfin)
    obtain ⟨n, hn⟩ : ∃ n, n = st.m.bytes.length := ⟨_, rfl⟩
    rw [← hn] at HC
    have HN := Lib.hid hn
    clear hfin hn
    go_enter Tryz.func31, Tryz.ntmps31
    go_wp2_with fail
    refine HC.out.mono ?_
    rintro e w1 ⟨Y, o, cap, nq, rfl, hm, rfl⟩
    have hcv := run_bytes_string (P := Tryz.prog) (src := 49) (dst := 9) (cap := cap) hm HN.out.symm Tryz.underlying49 Tryz.underlying5 Tryz.underlying9
    have hb3 := HRES.out
    have hb1 := HBW.out
    have ha1 : Adv ((w.alloc (.cells #[.int .u8 22, .int .u8 kind, .int .i64 slot, .int .u64 num, .int .u64 els, .int .u32 off0, .int .i64 ref, .int .i64 size, .int .i64 more, .int .i64 by_, .string S] 57)).alloc (.cells #[.int .u32 0, .int .u32 0, .string ⟨#[]⟩, .bool false] 34)) ((w.alloc (.cells #[.int .u8 22, .int .u8 kind, .int .i64 slot, .int .u64 num, .int .u64 els, .int .u32 off0, .int .i64 ref, .int .i64 size, .int .i64 more, .int .i64 by_, .string S] 57)).alloc (.cells #[.int .u32 0, .int .u32 0, .string ⟨#[]⟩, .bool false] 34)) F F := Adv.refl _ _
    have HWS2 := Lib.hid HWS.out
    have HWW := Lib.hid HW.out
    generalize ((w.alloc (.cells #[.int .u8 22, .int .u8 kind, .int .i64 slot, .int .u64 num, .int .u64 els, .int .u32 off0, .int .i64 ref, .int .i64 size, .int .i64 more, .int .i64 by_, .string S] 57)).alloc (.cells #[.int .u32 0, .int .u32 0, .string ⟨#[]⟩, .bool false] 34)) = w1 at *
    have e0 : w1.cell? ⟨w.heap.size + 1, 0, none⟩ = some (.int .u32 0) := by rw [cell_of hb3]; rfl
    have e1 : w1.cell? ⟨w.heap.size + 1, 1, none⟩ = some (.int .u32 0) := by rw [cell_of hb3]; rfl
    have e2 : w1.cell? ⟨w.heap.size + 1, 2, none⟩ = some (.string ⟨#[]⟩) := by rw [cell_of hb3]; rfl
    have e3 : w1.cell? ⟨w.heap.size + 1, 3, none⟩ = some (.bool false) := by rw [cell_of hb3]; rfl
    have f0 := frozen_of hb3 0
    have f1 := frozen_of hb3 1
    have f2 := frozen_of hb3 2
    have f3 := frozen_of hb3 3
    have HB3 := Lib.hid (show (w1.drewN nq).heap[w.heap.size + 1]? = _ from hb3)
    have HB1 := Lib.hid (hb1.drewN nq)
    have HA1 := Lib.hid (ha1.drewN nq)
    clear hb3 hb1 ha1 hm
    go_wp2_with fail
    exact bodyPost_ret (results_cell_row (P := Tryz.prog) rfl _ _ (w.heap.size + 1) 34 _ (0, 0) _ rfl (set4 _ _ _ _ _ _ _ _ (heap_setCell_same HB3.out 2 _) rfl) Tryz.underlying34 rfl infoBAns) rfl
      ⟨rfl, bstep_end HWW.out HWS2.out HFL.out HA1.out HB1.out (Fr.set4 ((Fr.refl (fun k => k = w.heap.size + 1) _).setCell (fun _ => rfl) _) _ _ _ _)⟩
  · rw [if_neg hfin]
    have HC := Lib.hid (FinishedBytes_dies b F st _ HBW.out (by simpa using hfin))
    clear hfin
    go_enter Tryz.func31, Tryz.ntmps31
    go_wp2_with fail
    refine HC.out.mono ?_
    rintro e w1 ⟨⟨u, v, rfl⟩, hf⟩
    exact ⟨rfl, bstep_falls HW.out ⟨⟨u, v, rfl⟩, hf⟩⟩
end Go.Proofs.YtfplgggepoaajaaGreat
