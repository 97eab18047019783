/- impl.buildStep: one step over a Builder, op by op. -/
import Derived.Test.YtfplgggepoaajaaGreatKinds
import Derived.Test.YtfplgggepoaajaaGreatKeep
import Derived.Laws.ResultCell
import Derived.Laws.Rows
namespace Go.Proofs.YtfplgggepoaajaaGreat
open Go.RowKit
set_option linter.unusedVariables false
set_option linter.unusedSimpArgs false

def unitN (o : Option BSt) : Option (Nat × List UInt8 × BSt) := o.map fun s => (0, [], s)
def numN (o : Option (Nat × BSt)) : Option (Nat × List UInt8 × BSt) := o.map fun p => (p.1, [], p.2)
def bansV (r : Nat) (t : List UInt8) : Value := .agg #[.int .u32 r, .int .u32 0, .string (strOf t), .bool false]
/-- What a step answers, or a panic. -/
def ARes (w : World) (b : Nat) (F : List Nat) (o : Option (Nat × List UInt8 × BSt)) : Ending → World → Prop := fun e w' =>
  match o with
  | none => Falls2 (fun k => k ∈ F) w e w'
  | some (r, t, st') => e = .returned (bansV r t) ∧ ∃ F', BRep w' b F' st' ∧ Adv w w' F F'
theorem bstep_end {w W w1 w2 : World} {b : Nat} {F F1 : List Nat} {st' : BSt} (hW : Fr0 w W) (hWs : w.heap.size + 1 < W.heap.size) (hFl : ∀ k ∈ F, k < w.heap.size) (ha : Adv W w1 F F1) (hb : BRep w1 b F1 st') (hf : Fr (fun k => k = w.heap.size + 1) w1 w2) : ∃ F', BRep w2 b F' st' ∧ Adv w w2 F F' := by
  have hs := hW.size
  refine ⟨F1, hb.keep hf (fun k hk e => ?_), ?_⟩
  · rcases ha.2 k hk with h | h
    · have := hFl k h; omega
    · omega
  · refine ⟨((hW.mono (S' := fun k => k ∈ F) (fun _ _ x => x.elim)).trans2 ha.1 (fun _ _ h => h)).trans2 hf (fun k hk e => absurd hk (by omega)), fun k hk => ?_⟩
    rcases ha.2 k hk with h | h
    · exact .inl h
    · right; omega
theorem bstep_falls {w W w1 : World} {F : List Nat} {e : Ending} (hW : Fr0 w W) (h : Falls2 (fun k => k ∈ F) W e w1) : Falls2 (fun k => k ∈ F) w e w1 := ⟨h.1, (hW.mono (S' := fun k => k ∈ F) (fun _ _ x => x.elim)).trans h.2⟩
theorem infoBAns : (Tryz.prog.info? 34).map (·.size) = some 4 := by kernel_rfl
theorem set4 (w : World) (H : Nat) (a b c d : Value) (t : TypeId) (cs : Array Value) (hb : w.heap[H]? = some (.cells cs t)) (hs : cs.size = 4) :
    ((((w.setCell ⟨H, 0, none⟩ a).setCell ⟨H, 1, none⟩ b).setCell ⟨H, 2, none⟩ c).setCell ⟨H, 3, none⟩ d).heap[H]? = some (.cells #[a, b, c, d] t) := by
  rw [heap_setCell_same (heap_setCell_same (heap_setCell_same (heap_setCell_same hb 0 a) 1 b) 2 c) 3 d]
  congr 2
  obtain ⟨l⟩ := cs
  simp at hs
  match l, hs with
  | [x0, x1, x2, x3], _ => rfl
theorem Fr.set4 {w1 w : World} {H : Nat} (h : Fr (fun k => k = H) w1 w) (a b c d : Value) : Fr (fun k => k = H) w1 ((((w.setCell ⟨H, 0, none⟩ a).setCell ⟨H, 1, none⟩ b).setCell ⟨H, 2, none⟩ c).setCell ⟨H, 3, none⟩ d) :=
  (((h.setCell (fun _ => rfl) _).setCell (fun _ => rfl) _).setCell (fun _ => rfl) _).setCell (fun _ => rfl) _

set_option maxRecDepth 20000 in
set_option maxHeartbeats 2000000 in
theorem bstep_0 (b : Nat) (F : List Nat) (st : BSt) (kind ref size more by_ : Int) (slot : Nat) (num els off0 off : Nat) (text : List UInt8) (w : World) (h : BRep w b F st)  (o : Option BSt)
    (hc : ∀ W, BRep W b F st → Calls Tryz.prog 48 #[.pointer (some ⟨b, 0, none⟩), .int .i64 (slot : Nat)] W (BRes W b F (unitRes o))) :
    Calls Tryz.prog 31 #[.pointer (some ⟨b, 0, none⟩), .agg #[.int .u8 0, .int .u8 kind, .int .i64 (slot : Nat), .int .u64 num, .int .u64 els, .int .u32 off0, .int .i64 ref, .int .i64 size, .int .i64 more, .int .i64 by_, .string (strOf text)], .int .u32 off] w (ARes w b F (unitN o)) := by
  obtain ⟨S, hS⟩ : ∃ S, S = strOf text := ⟨_, rfl⟩
  rw [← hS] 
  clear hS
  have hW : Fr0 w ((w.alloc (.cells #[.int .u8 0, .int .u8 kind, .int .i64 (slot : Nat), .int .u64 num, .int .u64 els, .int .u32 off0, .int .i64 ref, .int .i64 size, .int .i64 more, .int .i64 by_, .string S] 57)).alloc (.cells #[.int .u32 0, .int .u32 0, .string ⟨#[]⟩, .bool false] 34)) := ((Fr.refl _ w).alloc _).alloc _
  have hbW := h.keep hW (fun _ _ x => x)
  have hres : ((w.alloc (.cells #[.int .u8 0, .int .u8 kind, .int .i64 (slot : Nat), .int .u64 num, .int .u64 els, .int .u32 off0, .int .i64 ref, .int .i64 size, .int .i64 more, .int .i64 by_, .string S] 57)).alloc (.cells #[.int .u32 0, .int .u32 0, .string ⟨#[]⟩, .bool false] 34)).heap[w.heap.size + 1]? = some (.cells #[.int .u32 0, .int .u32 0, .string ⟨#[]⟩, .bool false] 34) := by
    simp only [heap_alloc_get, size_alloc]; rw [if_pos trivial]
  have hWs : w.heap.size + 1 < ((w.alloc (.cells #[.int .u8 0, .int .u8 kind, .int .i64 (slot : Nat), .int .u64 num, .int .u64 els, .int .u32 off0, .int .i64 ref, .int .i64 size, .int .i64 more, .int .i64 by_, .string S] 57)).alloc (.cells #[.int .u32 0, .int .u32 0, .string ⟨#[]⟩, .bool false] 34)).heap.size := by simp
  have HFL := Lib.hid h.below
  have HC := Lib.hid (hc _ hbW)
  have HRES := Lib.hid hres
  have HW := Lib.hid hW
  have HWS := Lib.hid hWs
  clear h hc hbW hW hres hWs
  cases o with
  | none =>
    go_enter Tryz.func31, Tryz.ntmps31
    go_wp2_with fail
    refine HC.out.mono ?_
    rintro e w1 ⟨⟨u, v, rfl⟩, hf⟩
    exact ⟨rfl, bstep_falls HW.out ⟨⟨u, v, rfl⟩, hf⟩⟩
  | some p =>
    obtain st1 := p
    go_enter Tryz.func31, Tryz.ntmps31
    go_wp2_with fail
    refine HC.out.mono ?_
    rintro e w1 ⟨rfl, F1, hb1, ha1⟩
    have hnF : ¬ (w.heap.size + 1 ∈ F) := fun hm => by have := HFL.out _ hm; omega
    have hb3 := (ha1.1.block (w.heap.size + 1) HWS.out hnF).trans HRES.out
    have e0 : w1.cell? ⟨w.heap.size + 1, 0, none⟩ = some (.int .u32 0) := by rw [cell_of hb3]; rfl
    have e1 : w1.cell? ⟨w.heap.size + 1, 1, none⟩ = some (.int .u32 0) := by rw [cell_of hb3]; rfl
    have e2 : w1.cell? ⟨w.heap.size + 1, 2, none⟩ = some (.string ⟨#[]⟩) := by rw [cell_of hb3]; rfl
    have e3 : w1.cell? ⟨w.heap.size + 1, 3, none⟩ = some (.bool false) := by rw [cell_of hb3]; rfl
    have f0 := frozen_of hb3 0
    have f1 := frozen_of hb3 1
    have f2 := frozen_of hb3 2
    have f3 := frozen_of hb3 3
    have HB3 := Lib.hid hb3
    have HB1 := Lib.hid hb1
    have HA1 := Lib.hid ha1
    clear hb3 hb1 ha1 hnF
    go_wp2_with fail
    exact bodyPost_ret (results_cell_row (P := Tryz.prog) rfl _ _ (w.heap.size + 1) 34 _ (0, 0) _ rfl (set4 _ _ _ _ _ _ _ _ (HB3.out) rfl) Tryz.underlying34 rfl infoBAns) rfl
      ⟨rfl, bstep_end HW.out HWS.out HFL.out HA1.out HB1.out (Fr.set4 (Fr.refl _ _) _ _ _ _)⟩

set_option maxRecDepth 20000 in
set_option maxHeartbeats 2000000 in
theorem bstep_1 (b : Nat) (F : List Nat) (st : BSt) (kind slot ref size more by_ : Int) (num els off0 off : Nat) (text : List UInt8) (w : World) (h : BRep w b F st)  (o : Option (Nat × BSt))
    (hc : ∀ W, BRep W b F st → Calls Tryz.prog 49 #[.pointer (some ⟨b, 0, none⟩)] W (BRes W b F (numRes o))) :
    Calls Tryz.prog 31 #[.pointer (some ⟨b, 0, none⟩), .agg #[.int .u8 1, .int .u8 kind, .int .i64 slot, .int .u64 num, .int .u64 els, .int .u32 off0, .int .i64 ref, .int .i64 size, .int .i64 more, .int .i64 by_, .string (strOf text)], .int .u32 off] w (ARes w b F (numN o)) := by
  obtain ⟨S, hS⟩ : ∃ S, S = strOf text := ⟨_, rfl⟩
  rw [← hS] 
  clear hS
  have hW : Fr0 w ((w.alloc (.cells #[.int .u8 1, .int .u8 kind, .int .i64 slot, .int .u64 num, .int .u64 els, .int .u32 off0, .int .i64 ref, .int .i64 size, .int .i64 more, .int .i64 by_, .string S] 57)).alloc (.cells #[.int .u32 0, .int .u32 0, .string ⟨#[]⟩, .bool false] 34)) := ((Fr.refl _ w).alloc _).alloc _
  have hbW := h.keep hW (fun _ _ x => x)
  have hres : ((w.alloc (.cells #[.int .u8 1, .int .u8 kind, .int .i64 slot, .int .u64 num, .int .u64 els, .int .u32 off0, .int .i64 ref, .int .i64 size, .int .i64 more, .int .i64 by_, .string S] 57)).alloc (.cells #[.int .u32 0, .int .u32 0, .string ⟨#[]⟩, .bool false] 34)).heap[w.heap.size + 1]? = some (.cells #[.int .u32 0, .int .u32 0, .string ⟨#[]⟩, .bool false] 34) := by
    simp only [heap_alloc_get, size_alloc]; rw [if_pos trivial]
  have hWs : w.heap.size + 1 < ((w.alloc (.cells #[.int .u8 1, .int .u8 kind, .int .i64 slot, .int .u64 num, .int .u64 els, .int .u32 off0, .int .i64 ref, .int .i64 size, .int .i64 more, .int .i64 by_, .string S] 57)).alloc (.cells #[.int .u32 0, .int .u32 0, .string ⟨#[]⟩, .bool false] 34)).heap.size := by simp
  have HFL := Lib.hid h.below
  have HC := Lib.hid (hc _ hbW)
  have HRES := Lib.hid hres
  have HW := Lib.hid hW
  have HWS := Lib.hid hWs
  clear h hc hbW hW hres hWs
  cases o with
  | none =>
    go_enter Tryz.func31, Tryz.ntmps31
    go_wp2_with fail
    refine HC.out.mono ?_
    rintro e w1 ⟨⟨u, v, rfl⟩, hf⟩
    exact ⟨rfl, bstep_falls HW.out ⟨⟨u, v, rfl⟩, hf⟩⟩
  | some p =>
    obtain ⟨r, st1⟩ := p
    go_enter Tryz.func31, Tryz.ntmps31
    go_wp2_with fail
    refine HC.out.mono ?_
    rintro e w1 ⟨rfl, F1, hb1, ha1⟩
    have hnF : ¬ (w.heap.size + 1 ∈ F) := fun hm => by have := HFL.out _ hm; omega
    have hb3 := (ha1.1.block (w.heap.size + 1) HWS.out hnF).trans HRES.out
    have e0 : w1.cell? ⟨w.heap.size + 1, 0, none⟩ = some (.int .u32 0) := by rw [cell_of hb3]; rfl
    have e1 : w1.cell? ⟨w.heap.size + 1, 1, none⟩ = some (.int .u32 0) := by rw [cell_of hb3]; rfl
    have e2 : w1.cell? ⟨w.heap.size + 1, 2, none⟩ = some (.string ⟨#[]⟩) := by rw [cell_of hb3]; rfl
    have e3 : w1.cell? ⟨w.heap.size + 1, 3, none⟩ = some (.bool false) := by rw [cell_of hb3]; rfl
    have f0 := frozen_of hb3 0
    have f1 := frozen_of hb3 1
    have f2 := frozen_of hb3 2
    have f3 := frozen_of hb3 3
    have HB3 := Lib.hid hb3
    have HB1 := Lib.hid hb1
    have HA1 := Lib.hid ha1
    clear hb3 hb1 ha1 hnF
    go_wp2_with fail
    exact bodyPost_ret (results_cell_row (P := Tryz.prog) rfl _ _ (w.heap.size + 1) 34 _ (0, 0) _ rfl (set4 _ _ _ _ _ _ _ _ (heap_setCell_same HB3.out 0 _) rfl) Tryz.underlying34 rfl infoBAns) rfl
      ⟨rfl, bstep_end HW.out HWS.out HFL.out HA1.out HB1.out (Fr.set4 ((Fr.refl (fun k => k = w.heap.size + 1) _).setCell (fun _ => rfl) _) _ _ _ _)⟩

set_option maxRecDepth 20000 in
set_option maxHeartbeats 2000000 in
theorem bstep_2 (b : Nat) (F : List Nat) (st : BSt) (kind slot ref size more by_ : Int) (num els off0 off : Nat) (text : List UInt8) (w : World) (h : BRep w b F st)  (o : Option BSt)
    (hc : ∀ W, BRep W b F st → Calls Tryz.prog 50 #[.pointer (some ⟨b, 0, none⟩), .int .u8 kind, .int .u64 num] W (BRes W b F (unitRes o))) :
    Calls Tryz.prog 31 #[.pointer (some ⟨b, 0, none⟩), .agg #[.int .u8 2, .int .u8 kind, .int .i64 slot, .int .u64 num, .int .u64 els, .int .u32 off0, .int .i64 ref, .int .i64 size, .int .i64 more, .int .i64 by_, .string (strOf text)], .int .u32 off] w (ARes w b F (unitN o)) := by
  obtain ⟨S, hS⟩ : ∃ S, S = strOf text := ⟨_, rfl⟩
  rw [← hS] 
  clear hS
  have hW : Fr0 w ((w.alloc (.cells #[.int .u8 2, .int .u8 kind, .int .i64 slot, .int .u64 num, .int .u64 els, .int .u32 off0, .int .i64 ref, .int .i64 size, .int .i64 more, .int .i64 by_, .string S] 57)).alloc (.cells #[.int .u32 0, .int .u32 0, .string ⟨#[]⟩, .bool false] 34)) := ((Fr.refl _ w).alloc _).alloc _
  have hbW := h.keep hW (fun _ _ x => x)
  have hres : ((w.alloc (.cells #[.int .u8 2, .int .u8 kind, .int .i64 slot, .int .u64 num, .int .u64 els, .int .u32 off0, .int .i64 ref, .int .i64 size, .int .i64 more, .int .i64 by_, .string S] 57)).alloc (.cells #[.int .u32 0, .int .u32 0, .string ⟨#[]⟩, .bool false] 34)).heap[w.heap.size + 1]? = some (.cells #[.int .u32 0, .int .u32 0, .string ⟨#[]⟩, .bool false] 34) := by
    simp only [heap_alloc_get, size_alloc]; rw [if_pos trivial]
  have hWs : w.heap.size + 1 < ((w.alloc (.cells #[.int .u8 2, .int .u8 kind, .int .i64 slot, .int .u64 num, .int .u64 els, .int .u32 off0, .int .i64 ref, .int .i64 size, .int .i64 more, .int .i64 by_, .string S] 57)).alloc (.cells #[.int .u32 0, .int .u32 0, .string ⟨#[]⟩, .bool false] 34)).heap.size := by simp
  have HFL := Lib.hid h.below
  have HC := Lib.hid (hc _ hbW)
  have HRES := Lib.hid hres
  have HW := Lib.hid hW
  have HWS := Lib.hid hWs
  clear h hc hbW hW hres hWs
  cases o with
  | none =>
    go_enter Tryz.func31, Tryz.ntmps31
    go_wp2_with fail
    refine HC.out.mono ?_
    rintro e w1 ⟨⟨u, v, rfl⟩, hf⟩
    exact ⟨rfl, bstep_falls HW.out ⟨⟨u, v, rfl⟩, hf⟩⟩
  | some p =>
    obtain st1 := p
    go_enter Tryz.func31, Tryz.ntmps31
    go_wp2_with fail
    refine HC.out.mono ?_
    rintro e w1 ⟨rfl, F1, hb1, ha1⟩
    have hnF : ¬ (w.heap.size + 1 ∈ F) := fun hm => by have := HFL.out _ hm; omega
    have hb3 := (ha1.1.block (w.heap.size + 1) HWS.out hnF).trans HRES.out
    have e0 : w1.cell? ⟨w.heap.size + 1, 0, none⟩ = some (.int .u32 0) := by rw [cell_of hb3]; rfl
    have e1 : w1.cell? ⟨w.heap.size + 1, 1, none⟩ = some (.int .u32 0) := by rw [cell_of hb3]; rfl
    have e2 : w1.cell? ⟨w.heap.size + 1, 2, none⟩ = some (.string ⟨#[]⟩) := by rw [cell_of hb3]; rfl
    have e3 : w1.cell? ⟨w.heap.size + 1, 3, none⟩ = some (.bool false) := by rw [cell_of hb3]; rfl
    have f0 := frozen_of hb3 0
    have f1 := frozen_of hb3 1
    have f2 := frozen_of hb3 2
    have f3 := frozen_of hb3 3
    have HB3 := Lib.hid hb3
    have HB1 := Lib.hid hb1
    have HA1 := Lib.hid ha1
    clear hb3 hb1 ha1 hnF
    go_wp2_with fail
    exact bodyPost_ret (results_cell_row (P := Tryz.prog) rfl _ _ (w.heap.size + 1) 34 _ (0, 0) _ rfl (set4 _ _ _ _ _ _ _ _ (HB3.out) rfl) Tryz.underlying34 rfl infoBAns) rfl
      ⟨rfl, bstep_end HW.out HWS.out HFL.out HA1.out HB1.out (Fr.set4 (Fr.refl _ _) _ _ _ _)⟩

set_option maxRecDepth 20000 in
set_option maxHeartbeats 2000000 in
theorem bstep_3 (b : Nat) (F : List Nat) (st : BSt) (kind slot ref size more by_ : Int) (num els off0 off : Nat) (text : List UInt8) (w : World) (h : BRep w b F st)  (o : Option BSt)
    (hc : ∀ W, BRep W b F st → Calls Tryz.prog 51 #[.pointer (some ⟨b, 0, none⟩), .int .u8 kind, .int .i64 slot, .int .u64 num, .int .u64 els] W (BRes W b F (unitRes o))) :
    Calls Tryz.prog 31 #[.pointer (some ⟨b, 0, none⟩), .agg #[.int .u8 3, .int .u8 kind, .int .i64 slot, .int .u64 num, .int .u64 els, .int .u32 off0, .int .i64 ref, .int .i64 size, .int .i64 more, .int .i64 by_, .string (strOf text)], .int .u32 off] w (ARes w b F (unitN o)) := by
  obtain ⟨S, hS⟩ : ∃ S, S = strOf text := ⟨_, rfl⟩
  rw [← hS] 
  clear hS
  have hW : Fr0 w ((w.alloc (.cells #[.int .u8 3, .int .u8 kind, .int .i64 slot, .int .u64 num, .int .u64 els, .int .u32 off0, .int .i64 ref, .int .i64 size, .int .i64 more, .int .i64 by_, .string S] 57)).alloc (.cells #[.int .u32 0, .int .u32 0, .string ⟨#[]⟩, .bool false] 34)) := ((Fr.refl _ w).alloc _).alloc _
  have hbW := h.keep hW (fun _ _ x => x)
  have hres : ((w.alloc (.cells #[.int .u8 3, .int .u8 kind, .int .i64 slot, .int .u64 num, .int .u64 els, .int .u32 off0, .int .i64 ref, .int .i64 size, .int .i64 more, .int .i64 by_, .string S] 57)).alloc (.cells #[.int .u32 0, .int .u32 0, .string ⟨#[]⟩, .bool false] 34)).heap[w.heap.size + 1]? = some (.cells #[.int .u32 0, .int .u32 0, .string ⟨#[]⟩, .bool false] 34) := by
    simp only [heap_alloc_get, size_alloc]; rw [if_pos trivial]
  have hWs : w.heap.size + 1 < ((w.alloc (.cells #[.int .u8 3, .int .u8 kind, .int .i64 slot, .int .u64 num, .int .u64 els, .int .u32 off0, .int .i64 ref, .int .i64 size, .int .i64 more, .int .i64 by_, .string S] 57)).alloc (.cells #[.int .u32 0, .int .u32 0, .string ⟨#[]⟩, .bool false] 34)).heap.size := by simp
  have HFL := Lib.hid h.below
  have HC := Lib.hid (hc _ hbW)
  have HRES := Lib.hid hres
  have HW := Lib.hid hW
  have HWS := Lib.hid hWs
  clear h hc hbW hW hres hWs
  cases o with
  | none =>
    go_enter Tryz.func31, Tryz.ntmps31
    go_wp2_with fail
    refine HC.out.mono ?_
    rintro e w1 ⟨⟨u, v, rfl⟩, hf⟩
    exact ⟨rfl, bstep_falls HW.out ⟨⟨u, v, rfl⟩, hf⟩⟩
  | some p =>
    obtain st1 := p
    go_enter Tryz.func31, Tryz.ntmps31
    go_wp2_with fail
    refine HC.out.mono ?_
    rintro e w1 ⟨rfl, F1, hb1, ha1⟩
    have hnF : ¬ (w.heap.size + 1 ∈ F) := fun hm => by have := HFL.out _ hm; omega
    have hb3 := (ha1.1.block (w.heap.size + 1) HWS.out hnF).trans HRES.out
    have e0 : w1.cell? ⟨w.heap.size + 1, 0, none⟩ = some (.int .u32 0) := by rw [cell_of hb3]; rfl
    have e1 : w1.cell? ⟨w.heap.size + 1, 1, none⟩ = some (.int .u32 0) := by rw [cell_of hb3]; rfl
    have e2 : w1.cell? ⟨w.heap.size + 1, 2, none⟩ = some (.string ⟨#[]⟩) := by rw [cell_of hb3]; rfl
    have e3 : w1.cell? ⟨w.heap.size + 1, 3, none⟩ = some (.bool false) := by rw [cell_of hb3]; rfl
    have f0 := frozen_of hb3 0
    have f1 := frozen_of hb3 1
    have f2 := frozen_of hb3 2
    have f3 := frozen_of hb3 3
    have HB3 := Lib.hid hb3
    have HB1 := Lib.hid hb1
    have HA1 := Lib.hid ha1
    clear hb3 hb1 ha1 hnF
    go_wp2_with fail
    exact bodyPost_ret (results_cell_row (P := Tryz.prog) rfl _ _ (w.heap.size + 1) 34 _ (0, 0) _ rfl (set4 _ _ _ _ _ _ _ _ (HB3.out) rfl) Tryz.underlying34 rfl infoBAns) rfl
      ⟨rfl, bstep_end HW.out HWS.out HFL.out HA1.out HB1.out (Fr.set4 (Fr.refl _ _) _ _ _ _)⟩

set_option maxRecDepth 20000 in
set_option maxHeartbeats 2000000 in
theorem bstep_4 (b : Nat) (F : List Nat) (st : BSt) (kind slot ref size more by_ : Int) (num els off0 off : Nat) (text : List UInt8) (w : World) (h : BRep w b F st)  (o : Option BSt)
    (hc : ∀ W, BRep W b F st → Calls Tryz.prog 52 #[.pointer (some ⟨b, 0, none⟩), .int .u32 off] W (BRes W b F (unitRes o))) :
    Calls Tryz.prog 31 #[.pointer (some ⟨b, 0, none⟩), .agg #[.int .u8 4, .int .u8 kind, .int .i64 slot, .int .u64 num, .int .u64 els, .int .u32 off0, .int .i64 ref, .int .i64 size, .int .i64 more, .int .i64 by_, .string (strOf text)], .int .u32 off] w (ARes w b F (unitN o)) := by
  obtain ⟨S, hS⟩ : ∃ S, S = strOf text := ⟨_, rfl⟩
  rw [← hS] 
  clear hS
  have hW : Fr0 w ((w.alloc (.cells #[.int .u8 4, .int .u8 kind, .int .i64 slot, .int .u64 num, .int .u64 els, .int .u32 off0, .int .i64 ref, .int .i64 size, .int .i64 more, .int .i64 by_, .string S] 57)).alloc (.cells #[.int .u32 0, .int .u32 0, .string ⟨#[]⟩, .bool false] 34)) := ((Fr.refl _ w).alloc _).alloc _
  have hbW := h.keep hW (fun _ _ x => x)
  have hres : ((w.alloc (.cells #[.int .u8 4, .int .u8 kind, .int .i64 slot, .int .u64 num, .int .u64 els, .int .u32 off0, .int .i64 ref, .int .i64 size, .int .i64 more, .int .i64 by_, .string S] 57)).alloc (.cells #[.int .u32 0, .int .u32 0, .string ⟨#[]⟩, .bool false] 34)).heap[w.heap.size + 1]? = some (.cells #[.int .u32 0, .int .u32 0, .string ⟨#[]⟩, .bool false] 34) := by
    simp only [heap_alloc_get, size_alloc]; rw [if_pos trivial]
  have hWs : w.heap.size + 1 < ((w.alloc (.cells #[.int .u8 4, .int .u8 kind, .int .i64 slot, .int .u64 num, .int .u64 els, .int .u32 off0, .int .i64 ref, .int .i64 size, .int .i64 more, .int .i64 by_, .string S] 57)).alloc (.cells #[.int .u32 0, .int .u32 0, .string ⟨#[]⟩, .bool false] 34)).heap.size := by simp
  have HFL := Lib.hid h.below
  have HC := Lib.hid (hc _ hbW)
  have HRES := Lib.hid hres
  have HW := Lib.hid hW
  have HWS := Lib.hid hWs
  clear h hc hbW hW hres hWs
  cases o with
  | none =>
    go_enter Tryz.func31, Tryz.ntmps31
    go_wp2_with fail
    refine HC.out.mono ?_
    rintro e w1 ⟨⟨u, v, rfl⟩, hf⟩
    exact ⟨rfl, bstep_falls HW.out ⟨⟨u, v, rfl⟩, hf⟩⟩
  | some p =>
    obtain st1 := p
    go_enter Tryz.func31, Tryz.ntmps31
    go_wp2_with fail
    refine HC.out.mono ?_
    rintro e w1 ⟨rfl, F1, hb1, ha1⟩
    have hnF : ¬ (w.heap.size + 1 ∈ F) := fun hm => by have := HFL.out _ hm; omega
    have hb3 := (ha1.1.block (w.heap.size + 1) HWS.out hnF).trans HRES.out
    have e0 : w1.cell? ⟨w.heap.size + 1, 0, none⟩ = some (.int .u32 0) := by rw [cell_of hb3]; rfl
    have e1 : w1.cell? ⟨w.heap.size + 1, 1, none⟩ = some (.int .u32 0) := by rw [cell_of hb3]; rfl
    have e2 : w1.cell? ⟨w.heap.size + 1, 2, none⟩ = some (.string ⟨#[]⟩) := by rw [cell_of hb3]; rfl
    have e3 : w1.cell? ⟨w.heap.size + 1, 3, none⟩ = some (.bool false) := by rw [cell_of hb3]; rfl
    have f0 := frozen_of hb3 0
    have f1 := frozen_of hb3 1
    have f2 := frozen_of hb3 2
    have f3 := frozen_of hb3 3
    have HB3 := Lib.hid hb3
    have HB1 := Lib.hid hb1
    have HA1 := Lib.hid ha1
    clear hb3 hb1 ha1 hnF
    go_wp2_with fail
    exact bodyPost_ret (results_cell_row (P := Tryz.prog) rfl _ _ (w.heap.size + 1) 34 _ (0, 0) _ rfl (set4 _ _ _ _ _ _ _ _ (HB3.out) rfl) Tryz.underlying34 rfl infoBAns) rfl
      ⟨rfl, bstep_end HW.out HWS.out HFL.out HA1.out HB1.out (Fr.set4 (Fr.refl _ _) _ _ _ _)⟩

set_option maxRecDepth 20000 in
set_option maxHeartbeats 2000000 in
theorem bstep_5 (b : Nat) (F : List Nat) (st : BSt) (kind slot ref size more by_ : Int) (num els off0 off : Nat) (text : List UInt8) (w : World) (h : BRep w b F st) (hels : els < 4294967296) (o : Option BSt)
    (hc : ∀ W, BRep W b F st → Calls Tryz.prog 53 #[.pointer (some ⟨b, 0, none⟩), .int .i64 slot, .int .u32 off, .int .u32 els] W (BRes W b F (unitRes o))) :
    Calls Tryz.prog 31 #[.pointer (some ⟨b, 0, none⟩), .agg #[.int .u8 5, .int .u8 kind, .int .i64 slot, .int .u64 num, .int .u64 els, .int .u32 off0, .int .i64 ref, .int .i64 size, .int .i64 more, .int .i64 by_, .string (strOf text)], .int .u32 off] w (ARes w b F (unitN o)) := by
  obtain ⟨S, hS⟩ : ∃ S, S = strOf text := ⟨_, rfl⟩
  rw [← hS] 
  clear hS
  have hW : Fr0 w ((w.alloc (.cells #[.int .u8 5, .int .u8 kind, .int .i64 slot, .int .u64 num, .int .u64 els, .int .u32 off0, .int .i64 ref, .int .i64 size, .int .i64 more, .int .i64 by_, .string S] 57)).alloc (.cells #[.int .u32 0, .int .u32 0, .string ⟨#[]⟩, .bool false] 34)) := ((Fr.refl _ w).alloc _).alloc _
  have hbW := h.keep hW (fun _ _ x => x)
  have hres : ((w.alloc (.cells #[.int .u8 5, .int .u8 kind, .int .i64 slot, .int .u64 num, .int .u64 els, .int .u32 off0, .int .i64 ref, .int .i64 size, .int .i64 more, .int .i64 by_, .string S] 57)).alloc (.cells #[.int .u32 0, .int .u32 0, .string ⟨#[]⟩, .bool false] 34)).heap[w.heap.size + 1]? = some (.cells #[.int .u32 0, .int .u32 0, .string ⟨#[]⟩, .bool false] 34) := by
    simp only [heap_alloc_get, size_alloc]; rw [if_pos trivial]
  have hWs : w.heap.size + 1 < ((w.alloc (.cells #[.int .u8 5, .int .u8 kind, .int .i64 slot, .int .u64 num, .int .u64 els, .int .u32 off0, .int .i64 ref, .int .i64 size, .int .i64 more, .int .i64 by_, .string S] 57)).alloc (.cells #[.int .u32 0, .int .u32 0, .string ⟨#[]⟩, .bool false] 34)).heap.size := by simp
  have HFL := Lib.hid h.below
  have HC := Lib.hid (hc _ hbW)
  have HRES := Lib.hid hres
  have HW := Lib.hid hW
  have HWS := Lib.hid hWs
  clear h hc hbW hW hres hWs
  cases o with
  | none =>
    go_enter Tryz.func31, Tryz.ntmps31
    go_wp2_with fail
    refine HC.out.mono ?_
    rintro e w1 ⟨⟨u, v, rfl⟩, hf⟩
    exact ⟨rfl, bstep_falls HW.out ⟨⟨u, v, rfl⟩, hf⟩⟩
  | some p =>
    obtain st1 := p
    go_enter Tryz.func31, Tryz.ntmps31
    go_wp2_with fail
    refine HC.out.mono ?_
    rintro e w1 ⟨rfl, F1, hb1, ha1⟩
    have hnF : ¬ (w.heap.size + 1 ∈ F) := fun hm => by have := HFL.out _ hm; omega
    have hb3 := (ha1.1.block (w.heap.size + 1) HWS.out hnF).trans HRES.out
    have e0 : w1.cell? ⟨w.heap.size + 1, 0, none⟩ = some (.int .u32 0) := by rw [cell_of hb3]; rfl
    have e1 : w1.cell? ⟨w.heap.size + 1, 1, none⟩ = some (.int .u32 0) := by rw [cell_of hb3]; rfl
    have e2 : w1.cell? ⟨w.heap.size + 1, 2, none⟩ = some (.string ⟨#[]⟩) := by rw [cell_of hb3]; rfl
    have e3 : w1.cell? ⟨w.heap.size + 1, 3, none⟩ = some (.bool false) := by rw [cell_of hb3]; rfl
    have f0 := frozen_of hb3 0
    have f1 := frozen_of hb3 1
    have f2 := frozen_of hb3 2
    have f3 := frozen_of hb3 3
    have HB3 := Lib.hid hb3
    have HB1 := Lib.hid hb1
    have HA1 := Lib.hid ha1
    clear hb3 hb1 ha1 hnF
    go_wp2_with fail
    exact bodyPost_ret (results_cell_row (P := Tryz.prog) rfl _ _ (w.heap.size + 1) 34 _ (0, 0) _ rfl (set4 _ _ _ _ _ _ _ _ (HB3.out) rfl) Tryz.underlying34 rfl infoBAns) rfl
      ⟨rfl, bstep_end HW.out HWS.out HFL.out HA1.out HB1.out (Fr.set4 (Fr.refl _ _) _ _ _ _)⟩

set_option maxRecDepth 20000 in
set_option maxHeartbeats 2000000 in
theorem bstep_6 (b : Nat) (F : List Nat) (st : BSt) (kind slot ref size more by_ : Int) (num els off0 off : Nat) (text : List UInt8) (w : World) (h : BRep w b F st)  (o : Option BSt)
    (hc : ∀ W, BRep W b F st → Calls Tryz.prog 54 #[.pointer (some ⟨b, 0, none⟩), .int .i32 (wrap32 (off : Nat))] W (BRes W b F (unitRes o))) :
    Calls Tryz.prog 31 #[.pointer (some ⟨b, 0, none⟩), .agg #[.int .u8 6, .int .u8 kind, .int .i64 slot, .int .u64 num, .int .u64 els, .int .u32 off0, .int .i64 ref, .int .i64 size, .int .i64 more, .int .i64 by_, .string (strOf text)], .int .u32 off] w (ARes w b F (unitN o)) := by
  obtain ⟨S, hS⟩ : ∃ S, S = strOf text := ⟨_, rfl⟩
  rw [← hS] 
  clear hS
  have hW : Fr0 w ((w.alloc (.cells #[.int .u8 6, .int .u8 kind, .int .i64 slot, .int .u64 num, .int .u64 els, .int .u32 off0, .int .i64 ref, .int .i64 size, .int .i64 more, .int .i64 by_, .string S] 57)).alloc (.cells #[.int .u32 0, .int .u32 0, .string ⟨#[]⟩, .bool false] 34)) := ((Fr.refl _ w).alloc _).alloc _
  have hbW := h.keep hW (fun _ _ x => x)
  have hres : ((w.alloc (.cells #[.int .u8 6, .int .u8 kind, .int .i64 slot, .int .u64 num, .int .u64 els, .int .u32 off0, .int .i64 ref, .int .i64 size, .int .i64 more, .int .i64 by_, .string S] 57)).alloc (.cells #[.int .u32 0, .int .u32 0, .string ⟨#[]⟩, .bool false] 34)).heap[w.heap.size + 1]? = some (.cells #[.int .u32 0, .int .u32 0, .string ⟨#[]⟩, .bool false] 34) := by
    simp only [heap_alloc_get, size_alloc]; rw [if_pos trivial]
  have hWs : w.heap.size + 1 < ((w.alloc (.cells #[.int .u8 6, .int .u8 kind, .int .i64 slot, .int .u64 num, .int .u64 els, .int .u32 off0, .int .i64 ref, .int .i64 size, .int .i64 more, .int .i64 by_, .string S] 57)).alloc (.cells #[.int .u32 0, .int .u32 0, .string ⟨#[]⟩, .bool false] 34)).heap.size := by simp
  have HFL := Lib.hid h.below
  have HC := Lib.hid (hc _ hbW)
  have HRES := Lib.hid hres
  have HW := Lib.hid hW
  have HWS := Lib.hid hWs
  clear h hc hbW hW hres hWs
  cases o with
  | none =>
    go_enter Tryz.func31, Tryz.ntmps31
    go_wp2_with fail
    refine HC.out.mono ?_
    rintro e w1 ⟨⟨u, v, rfl⟩, hf⟩
    exact ⟨rfl, bstep_falls HW.out ⟨⟨u, v, rfl⟩, hf⟩⟩
  | some p =>
    obtain st1 := p
    go_enter Tryz.func31, Tryz.ntmps31
    go_wp2_with fail
    refine HC.out.mono ?_
    rintro e w1 ⟨rfl, F1, hb1, ha1⟩
    have hnF : ¬ (w.heap.size + 1 ∈ F) := fun hm => by have := HFL.out _ hm; omega
    have hb3 := (ha1.1.block (w.heap.size + 1) HWS.out hnF).trans HRES.out
    have e0 : w1.cell? ⟨w.heap.size + 1, 0, none⟩ = some (.int .u32 0) := by rw [cell_of hb3]; rfl
    have e1 : w1.cell? ⟨w.heap.size + 1, 1, none⟩ = some (.int .u32 0) := by rw [cell_of hb3]; rfl
    have e2 : w1.cell? ⟨w.heap.size + 1, 2, none⟩ = some (.string ⟨#[]⟩) := by rw [cell_of hb3]; rfl
    have e3 : w1.cell? ⟨w.heap.size + 1, 3, none⟩ = some (.bool false) := by rw [cell_of hb3]; rfl
    have f0 := frozen_of hb3 0
    have f1 := frozen_of hb3 1
    have f2 := frozen_of hb3 2
    have f3 := frozen_of hb3 3
    have HB3 := Lib.hid hb3
    have HB1 := Lib.hid hb1
    have HA1 := Lib.hid ha1
    clear hb3 hb1 ha1 hnF
    go_wp2_with fail
    exact bodyPost_ret (results_cell_row (P := Tryz.prog) rfl _ _ (w.heap.size + 1) 34 _ (0, 0) _ rfl (set4 _ _ _ _ _ _ _ _ (HB3.out) rfl) Tryz.underlying34 rfl infoBAns) rfl
      ⟨rfl, bstep_end HW.out HWS.out HFL.out HA1.out HB1.out (Fr.set4 (Fr.refl _ _) _ _ _ _)⟩

set_option maxRecDepth 20000 in
set_option maxHeartbeats 2000000 in
theorem bstep_7 (b : Nat) (F : List Nat) (st : BSt) (kind slot ref size more by_ : Int) (num els off0 off : Nat) (text : List UInt8) (w : World) (h : BRep w b F st)  (o : Option BSt)
    (hc : ∀ W, BRep W b F st → Calls Tryz.prog 55 #[.pointer (some ⟨b, 0, none⟩), .int .u16 (IntKind.u16.wrap num)] W (BRes W b F (unitRes o))) :
    Calls Tryz.prog 31 #[.pointer (some ⟨b, 0, none⟩), .agg #[.int .u8 7, .int .u8 kind, .int .i64 slot, .int .u64 num, .int .u64 els, .int .u32 off0, .int .i64 ref, .int .i64 size, .int .i64 more, .int .i64 by_, .string (strOf text)], .int .u32 off] w (ARes w b F (unitN o)) := by
  obtain ⟨S, hS⟩ : ∃ S, S = strOf text := ⟨_, rfl⟩
  rw [← hS] 
  clear hS
  have hW : Fr0 w ((w.alloc (.cells #[.int .u8 7, .int .u8 kind, .int .i64 slot, .int .u64 num, .int .u64 els, .int .u32 off0, .int .i64 ref, .int .i64 size, .int .i64 more, .int .i64 by_, .string S] 57)).alloc (.cells #[.int .u32 0, .int .u32 0, .string ⟨#[]⟩, .bool false] 34)) := ((Fr.refl _ w).alloc _).alloc _
  have hbW := h.keep hW (fun _ _ x => x)
  have hres : ((w.alloc (.cells #[.int .u8 7, .int .u8 kind, .int .i64 slot, .int .u64 num, .int .u64 els, .int .u32 off0, .int .i64 ref, .int .i64 size, .int .i64 more, .int .i64 by_, .string S] 57)).alloc (.cells #[.int .u32 0, .int .u32 0, .string ⟨#[]⟩, .bool false] 34)).heap[w.heap.size + 1]? = some (.cells #[.int .u32 0, .int .u32 0, .string ⟨#[]⟩, .bool false] 34) := by
    simp only [heap_alloc_get, size_alloc]; rw [if_pos trivial]
  have hWs : w.heap.size + 1 < ((w.alloc (.cells #[.int .u8 7, .int .u8 kind, .int .i64 slot, .int .u64 num, .int .u64 els, .int .u32 off0, .int .i64 ref, .int .i64 size, .int .i64 more, .int .i64 by_, .string S] 57)).alloc (.cells #[.int .u32 0, .int .u32 0, .string ⟨#[]⟩, .bool false] 34)).heap.size := by simp
  have HFL := Lib.hid h.below
  have HC := Lib.hid (hc _ hbW)
  have HRES := Lib.hid hres
  have HW := Lib.hid hW
  have HWS := Lib.hid hWs
  clear h hc hbW hW hres hWs
  cases o with
  | none =>
    go_enter Tryz.func31, Tryz.ntmps31
    go_wp2_with fail
    refine HC.out.mono ?_
    rintro e w1 ⟨⟨u, v, rfl⟩, hf⟩
    exact ⟨rfl, bstep_falls HW.out ⟨⟨u, v, rfl⟩, hf⟩⟩
  | some p =>
    obtain st1 := p
    go_enter Tryz.func31, Tryz.ntmps31
    go_wp2_with fail
    refine HC.out.mono ?_
    rintro e w1 ⟨rfl, F1, hb1, ha1⟩
    have hnF : ¬ (w.heap.size + 1 ∈ F) := fun hm => by have := HFL.out _ hm; omega
    have hb3 := (ha1.1.block (w.heap.size + 1) HWS.out hnF).trans HRES.out
    have e0 : w1.cell? ⟨w.heap.size + 1, 0, none⟩ = some (.int .u32 0) := by rw [cell_of hb3]; rfl
    have e1 : w1.cell? ⟨w.heap.size + 1, 1, none⟩ = some (.int .u32 0) := by rw [cell_of hb3]; rfl
    have e2 : w1.cell? ⟨w.heap.size + 1, 2, none⟩ = some (.string ⟨#[]⟩) := by rw [cell_of hb3]; rfl
    have e3 : w1.cell? ⟨w.heap.size + 1, 3, none⟩ = some (.bool false) := by rw [cell_of hb3]; rfl
    have f0 := frozen_of hb3 0
    have f1 := frozen_of hb3 1
    have f2 := frozen_of hb3 2
    have f3 := frozen_of hb3 3
    have HB3 := Lib.hid hb3
    have HB1 := Lib.hid hb1
    have HA1 := Lib.hid ha1
    clear hb3 hb1 ha1 hnF
    go_wp2_with fail
    exact bodyPost_ret (results_cell_row (P := Tryz.prog) rfl _ _ (w.heap.size + 1) 34 _ (0, 0) _ rfl (set4 _ _ _ _ _ _ _ _ (HB3.out) rfl) Tryz.underlying34 rfl infoBAns) rfl
      ⟨rfl, bstep_end HW.out HWS.out HFL.out HA1.out HB1.out (Fr.set4 (Fr.refl _ _) _ _ _ _)⟩

set_option maxRecDepth 20000 in
set_option maxHeartbeats 2000000 in
theorem bstep_8 (b : Nat) (F : List Nat) (st : BSt) (kind slot ref size more by_ : Int) (num els off0 off : Nat) (text : List UInt8) (w : World) (h : BRep w b F st) (hels : els < 4294967296) (o : Option BSt)
    (hc : ∀ W, BRep W b F st → Calls Tryz.prog 56 #[.pointer (some ⟨b, 0, none⟩), .int .i64 slot, .int .u32 off, .int .u32 els] W (BRes W b F (unitRes o))) :
    Calls Tryz.prog 31 #[.pointer (some ⟨b, 0, none⟩), .agg #[.int .u8 8, .int .u8 kind, .int .i64 slot, .int .u64 num, .int .u64 els, .int .u32 off0, .int .i64 ref, .int .i64 size, .int .i64 more, .int .i64 by_, .string (strOf text)], .int .u32 off] w (ARes w b F (unitN o)) := by
  obtain ⟨S, hS⟩ : ∃ S, S = strOf text := ⟨_, rfl⟩
  rw [← hS] 
  clear hS
  have hW : Fr0 w ((w.alloc (.cells #[.int .u8 8, .int .u8 kind, .int .i64 slot, .int .u64 num, .int .u64 els, .int .u32 off0, .int .i64 ref, .int .i64 size, .int .i64 more, .int .i64 by_, .string S] 57)).alloc (.cells #[.int .u32 0, .int .u32 0, .string ⟨#[]⟩, .bool false] 34)) := ((Fr.refl _ w).alloc _).alloc _
  have hbW := h.keep hW (fun _ _ x => x)
  have hres : ((w.alloc (.cells #[.int .u8 8, .int .u8 kind, .int .i64 slot, .int .u64 num, .int .u64 els, .int .u32 off0, .int .i64 ref, .int .i64 size, .int .i64 more, .int .i64 by_, .string S] 57)).alloc (.cells #[.int .u32 0, .int .u32 0, .string ⟨#[]⟩, .bool false] 34)).heap[w.heap.size + 1]? = some (.cells #[.int .u32 0, .int .u32 0, .string ⟨#[]⟩, .bool false] 34) := by
    simp only [heap_alloc_get, size_alloc]; rw [if_pos trivial]
  have hWs : w.heap.size + 1 < ((w.alloc (.cells #[.int .u8 8, .int .u8 kind, .int .i64 slot, .int .u64 num, .int .u64 els, .int .u32 off0, .int .i64 ref, .int .i64 size, .int .i64 more, .int .i64 by_, .string S] 57)).alloc (.cells #[.int .u32 0, .int .u32 0, .string ⟨#[]⟩, .bool false] 34)).heap.size := by simp
  have HFL := Lib.hid h.below
  have HC := Lib.hid (hc _ hbW)
  have HRES := Lib.hid hres
  have HW := Lib.hid hW
  have HWS := Lib.hid hWs
  clear h hc hbW hW hres hWs
  cases o with
  | none =>
    go_enter Tryz.func31, Tryz.ntmps31
    go_wp2_with fail
    refine HC.out.mono ?_
    rintro e w1 ⟨⟨u, v, rfl⟩, hf⟩
    exact ⟨rfl, bstep_falls HW.out ⟨⟨u, v, rfl⟩, hf⟩⟩
  | some p =>
    obtain st1 := p
    go_enter Tryz.func31, Tryz.ntmps31
    go_wp2_with fail
    refine HC.out.mono ?_
    rintro e w1 ⟨rfl, F1, hb1, ha1⟩
    have hnF : ¬ (w.heap.size + 1 ∈ F) := fun hm => by have := HFL.out _ hm; omega
    have hb3 := (ha1.1.block (w.heap.size + 1) HWS.out hnF).trans HRES.out
    have e0 : w1.cell? ⟨w.heap.size + 1, 0, none⟩ = some (.int .u32 0) := by rw [cell_of hb3]; rfl
    have e1 : w1.cell? ⟨w.heap.size + 1, 1, none⟩ = some (.int .u32 0) := by rw [cell_of hb3]; rfl
    have e2 : w1.cell? ⟨w.heap.size + 1, 2, none⟩ = some (.string ⟨#[]⟩) := by rw [cell_of hb3]; rfl
    have e3 : w1.cell? ⟨w.heap.size + 1, 3, none⟩ = some (.bool false) := by rw [cell_of hb3]; rfl
    have f0 := frozen_of hb3 0
    have f1 := frozen_of hb3 1
    have f2 := frozen_of hb3 2
    have f3 := frozen_of hb3 3
    have HB3 := Lib.hid hb3
    have HB1 := Lib.hid hb1
    have HA1 := Lib.hid ha1
    clear hb3 hb1 ha1 hnF
    go_wp2_with fail
    exact bodyPost_ret (results_cell_row (P := Tryz.prog) rfl _ _ (w.heap.size + 1) 34 _ (0, 0) _ rfl (set4 _ _ _ _ _ _ _ _ (HB3.out) rfl) Tryz.underlying34 rfl infoBAns) rfl
      ⟨rfl, bstep_end HW.out HWS.out HFL.out HA1.out HB1.out (Fr.set4 (Fr.refl _ _) _ _ _ _)⟩

set_option maxRecDepth 20000 in
set_option maxHeartbeats 2000000 in
theorem bstep_9 (b : Nat) (F : List Nat) (st : BSt) (kind slot ref size more by_ : Int) (num els off0 off : Nat) (text : List UInt8) (w : World) (h : BRep w b F st)  (o : Option BSt)
    (hc : ∀ W, BRep W b F st → Calls Tryz.prog 57 #[.pointer (some ⟨b, 0, none⟩), .int .i64 slot] W (BRes W b F (unitRes o))) :
    Calls Tryz.prog 31 #[.pointer (some ⟨b, 0, none⟩), .agg #[.int .u8 9, .int .u8 kind, .int .i64 slot, .int .u64 num, .int .u64 els, .int .u32 off0, .int .i64 ref, .int .i64 size, .int .i64 more, .int .i64 by_, .string (strOf text)], .int .u32 off] w (ARes w b F (unitN o)) := by
  obtain ⟨S, hS⟩ : ∃ S, S = strOf text := ⟨_, rfl⟩
  rw [← hS] 
  clear hS
  have hW : Fr0 w ((w.alloc (.cells #[.int .u8 9, .int .u8 kind, .int .i64 slot, .int .u64 num, .int .u64 els, .int .u32 off0, .int .i64 ref, .int .i64 size, .int .i64 more, .int .i64 by_, .string S] 57)).alloc (.cells #[.int .u32 0, .int .u32 0, .string ⟨#[]⟩, .bool false] 34)) := ((Fr.refl _ w).alloc _).alloc _
  have hbW := h.keep hW (fun _ _ x => x)
  have hres : ((w.alloc (.cells #[.int .u8 9, .int .u8 kind, .int .i64 slot, .int .u64 num, .int .u64 els, .int .u32 off0, .int .i64 ref, .int .i64 size, .int .i64 more, .int .i64 by_, .string S] 57)).alloc (.cells #[.int .u32 0, .int .u32 0, .string ⟨#[]⟩, .bool false] 34)).heap[w.heap.size + 1]? = some (.cells #[.int .u32 0, .int .u32 0, .string ⟨#[]⟩, .bool false] 34) := by
    simp only [heap_alloc_get, size_alloc]; rw [if_pos trivial]
  have hWs : w.heap.size + 1 < ((w.alloc (.cells #[.int .u8 9, .int .u8 kind, .int .i64 slot, .int .u64 num, .int .u64 els, .int .u32 off0, .int .i64 ref, .int .i64 size, .int .i64 more, .int .i64 by_, .string S] 57)).alloc (.cells #[.int .u32 0, .int .u32 0, .string ⟨#[]⟩, .bool false] 34)).heap.size := by simp
  have HFL := Lib.hid h.below
  have HC := Lib.hid (hc _ hbW)
  have HRES := Lib.hid hres
  have HW := Lib.hid hW
  have HWS := Lib.hid hWs
  clear h hc hbW hW hres hWs
  cases o with
  | none =>
    go_enter Tryz.func31, Tryz.ntmps31
    go_wp2_with fail
    refine HC.out.mono ?_
    rintro e w1 ⟨⟨u, v, rfl⟩, hf⟩
    exact ⟨rfl, bstep_falls HW.out ⟨⟨u, v, rfl⟩, hf⟩⟩
  | some p =>
    obtain st1 := p
    go_enter Tryz.func31, Tryz.ntmps31
    go_wp2_with fail
    refine HC.out.mono ?_
    rintro e w1 ⟨rfl, F1, hb1, ha1⟩
    have hnF : ¬ (w.heap.size + 1 ∈ F) := fun hm => by have := HFL.out _ hm; omega
    have hb3 := (ha1.1.block (w.heap.size + 1) HWS.out hnF).trans HRES.out
    have e0 : w1.cell? ⟨w.heap.size + 1, 0, none⟩ = some (.int .u32 0) := by rw [cell_of hb3]; rfl
    have e1 : w1.cell? ⟨w.heap.size + 1, 1, none⟩ = some (.int .u32 0) := by rw [cell_of hb3]; rfl
    have e2 : w1.cell? ⟨w.heap.size + 1, 2, none⟩ = some (.string ⟨#[]⟩) := by rw [cell_of hb3]; rfl
    have e3 : w1.cell? ⟨w.heap.size + 1, 3, none⟩ = some (.bool false) := by rw [cell_of hb3]; rfl
    have f0 := frozen_of hb3 0
    have f1 := frozen_of hb3 1
    have f2 := frozen_of hb3 2
    have f3 := frozen_of hb3 3
    have HB3 := Lib.hid hb3
    have HB1 := Lib.hid hb1
    have HA1 := Lib.hid ha1
    clear hb3 hb1 ha1 hnF
    go_wp2_with fail
    exact bodyPost_ret (results_cell_row (P := Tryz.prog) rfl _ _ (w.heap.size + 1) 34 _ (0, 0) _ rfl (set4 _ _ _ _ _ _ _ _ (HB3.out) rfl) Tryz.underlying34 rfl infoBAns) rfl
      ⟨rfl, bstep_end HW.out HWS.out HFL.out HA1.out HB1.out (Fr.set4 (Fr.refl _ _) _ _ _ _)⟩

set_option maxRecDepth 20000 in
set_option maxHeartbeats 2000000 in
theorem bstep_10 (b : Nat) (F : List Nat) (st : BSt) (kind slot ref : Int) (size more by_ : Nat) (num els off0 off : Nat) (text : List UInt8) (w : World) (h : BRep w b F st)  (o : Option (Nat × BSt))
    (hc : ∀ W, BRep W b F st → Calls Tryz.prog 58 #[.pointer (some ⟨b, 0, none⟩), .int .i64 (size : Nat), .int .i64 (more : Nat), .int .i64 (by_ : Nat)] W (BRes W b F (numRes o))) :
    Calls Tryz.prog 31 #[.pointer (some ⟨b, 0, none⟩), .agg #[.int .u8 10, .int .u8 kind, .int .i64 slot, .int .u64 num, .int .u64 els, .int .u32 off0, .int .i64 ref, .int .i64 (size : Nat), .int .i64 (more : Nat), .int .i64 (by_ : Nat), .string (strOf text)], .int .u32 off] w (ARes w b F (numN o)) := by
  obtain ⟨S, hS⟩ : ∃ S, S = strOf text := ⟨_, rfl⟩
  rw [← hS] 
  clear hS
  have hW : Fr0 w ((w.alloc (.cells #[.int .u8 10, .int .u8 kind, .int .i64 slot, .int .u64 num, .int .u64 els, .int .u32 off0, .int .i64 ref, .int .i64 (size : Nat), .int .i64 (more : Nat), .int .i64 (by_ : Nat), .string S] 57)).alloc (.cells #[.int .u32 0, .int .u32 0, .string ⟨#[]⟩, .bool false] 34)) := ((Fr.refl _ w).alloc _).alloc _
  have hbW := h.keep hW (fun _ _ x => x)
  have hres : ((w.alloc (.cells #[.int .u8 10, .int .u8 kind, .int .i64 slot, .int .u64 num, .int .u64 els, .int .u32 off0, .int .i64 ref, .int .i64 (size : Nat), .int .i64 (more : Nat), .int .i64 (by_ : Nat), .string S] 57)).alloc (.cells #[.int .u32 0, .int .u32 0, .string ⟨#[]⟩, .bool false] 34)).heap[w.heap.size + 1]? = some (.cells #[.int .u32 0, .int .u32 0, .string ⟨#[]⟩, .bool false] 34) := by
    simp only [heap_alloc_get, size_alloc]; rw [if_pos trivial]
  have hWs : w.heap.size + 1 < ((w.alloc (.cells #[.int .u8 10, .int .u8 kind, .int .i64 slot, .int .u64 num, .int .u64 els, .int .u32 off0, .int .i64 ref, .int .i64 (size : Nat), .int .i64 (more : Nat), .int .i64 (by_ : Nat), .string S] 57)).alloc (.cells #[.int .u32 0, .int .u32 0, .string ⟨#[]⟩, .bool false] 34)).heap.size := by simp
  have HFL := Lib.hid h.below
  have HC := Lib.hid (hc _ hbW)
  have HRES := Lib.hid hres
  have HW := Lib.hid hW
  have HWS := Lib.hid hWs
  clear h hc hbW hW hres hWs
  cases o with
  | none =>
    go_enter Tryz.func31, Tryz.ntmps31
    go_wp2_with fail
    refine HC.out.mono ?_
    rintro e w1 ⟨⟨u, v, rfl⟩, hf⟩
    exact ⟨rfl, bstep_falls HW.out ⟨⟨u, v, rfl⟩, hf⟩⟩
  | some p =>
    obtain ⟨r, st1⟩ := p
    go_enter Tryz.func31, Tryz.ntmps31
    go_wp2_with fail
    refine HC.out.mono ?_
    rintro e w1 ⟨rfl, F1, hb1, ha1⟩
    have hnF : ¬ (w.heap.size + 1 ∈ F) := fun hm => by have := HFL.out _ hm; omega
    have hb3 := (ha1.1.block (w.heap.size + 1) HWS.out hnF).trans HRES.out
    have e0 : w1.cell? ⟨w.heap.size + 1, 0, none⟩ = some (.int .u32 0) := by rw [cell_of hb3]; rfl
    have e1 : w1.cell? ⟨w.heap.size + 1, 1, none⟩ = some (.int .u32 0) := by rw [cell_of hb3]; rfl
    have e2 : w1.cell? ⟨w.heap.size + 1, 2, none⟩ = some (.string ⟨#[]⟩) := by rw [cell_of hb3]; rfl
    have e3 : w1.cell? ⟨w.heap.size + 1, 3, none⟩ = some (.bool false) := by rw [cell_of hb3]; rfl
    have f0 := frozen_of hb3 0
    have f1 := frozen_of hb3 1
    have f2 := frozen_of hb3 2
    have f3 := frozen_of hb3 3
    have HB3 := Lib.hid hb3
    have HB1 := Lib.hid hb1
    have HA1 := Lib.hid ha1
    clear hb3 hb1 ha1 hnF
    go_wp2_with fail
    exact bodyPost_ret (results_cell_row (P := Tryz.prog) rfl _ _ (w.heap.size + 1) 34 _ (0, 0) _ rfl (set4 _ _ _ _ _ _ _ _ (heap_setCell_same HB3.out 0 _) rfl) Tryz.underlying34 rfl infoBAns) rfl
      ⟨rfl, bstep_end HW.out HWS.out HFL.out HA1.out HB1.out (Fr.set4 ((Fr.refl (fun k => k = w.heap.size + 1) _).setCell (fun _ => rfl) _) _ _ _ _)⟩

set_option maxRecDepth 20000 in
set_option maxHeartbeats 2000000 in
theorem bstep_11 (b : Nat) (F : List Nat) (st : BSt) (kind ref size more by_ : Int) (slot : Nat) (num els off0 off : Nat) (text : List UInt8) (w : World) (h : BRep w b F st)  (o : Option (Nat × BSt))
    (hc : ∀ W, BRep W b F st → Calls Tryz.prog 59 #[.pointer (some ⟨b, 0, none⟩), .int .i64 (slot : Nat)] W (BRes W b F (numRes o))) :
    Calls Tryz.prog 31 #[.pointer (some ⟨b, 0, none⟩), .agg #[.int .u8 11, .int .u8 kind, .int .i64 (slot : Nat), .int .u64 num, .int .u64 els, .int .u32 off0, .int .i64 ref, .int .i64 size, .int .i64 more, .int .i64 by_, .string (strOf text)], .int .u32 off] w (ARes w b F (numN o)) := by
  obtain ⟨S, hS⟩ : ∃ S, S = strOf text := ⟨_, rfl⟩
  rw [← hS] 
  clear hS
  have hW : Fr0 w ((w.alloc (.cells #[.int .u8 11, .int .u8 kind, .int .i64 (slot : Nat), .int .u64 num, .int .u64 els, .int .u32 off0, .int .i64 ref, .int .i64 size, .int .i64 more, .int .i64 by_, .string S] 57)).alloc (.cells #[.int .u32 0, .int .u32 0, .string ⟨#[]⟩, .bool false] 34)) := ((Fr.refl _ w).alloc _).alloc _
  have hbW := h.keep hW (fun _ _ x => x)
  have hres : ((w.alloc (.cells #[.int .u8 11, .int .u8 kind, .int .i64 (slot : Nat), .int .u64 num, .int .u64 els, .int .u32 off0, .int .i64 ref, .int .i64 size, .int .i64 more, .int .i64 by_, .string S] 57)).alloc (.cells #[.int .u32 0, .int .u32 0, .string ⟨#[]⟩, .bool false] 34)).heap[w.heap.size + 1]? = some (.cells #[.int .u32 0, .int .u32 0, .string ⟨#[]⟩, .bool false] 34) := by
    simp only [heap_alloc_get, size_alloc]; rw [if_pos trivial]
  have hWs : w.heap.size + 1 < ((w.alloc (.cells #[.int .u8 11, .int .u8 kind, .int .i64 (slot : Nat), .int .u64 num, .int .u64 els, .int .u32 off0, .int .i64 ref, .int .i64 size, .int .i64 more, .int .i64 by_, .string S] 57)).alloc (.cells #[.int .u32 0, .int .u32 0, .string ⟨#[]⟩, .bool false] 34)).heap.size := by simp
  have HFL := Lib.hid h.below
  have HC := Lib.hid (hc _ hbW)
  have HRES := Lib.hid hres
  have HW := Lib.hid hW
  have HWS := Lib.hid hWs
  clear h hc hbW hW hres hWs
  cases o with
  | none =>
    go_enter Tryz.func31, Tryz.ntmps31
    go_wp2_with fail
    refine HC.out.mono ?_
    rintro e w1 ⟨⟨u, v, rfl⟩, hf⟩
    exact ⟨rfl, bstep_falls HW.out ⟨⟨u, v, rfl⟩, hf⟩⟩
  | some p =>
    obtain ⟨r, st1⟩ := p
    go_enter Tryz.func31, Tryz.ntmps31
    go_wp2_with fail
    refine HC.out.mono ?_
    rintro e w1 ⟨rfl, F1, hb1, ha1⟩
    have hnF : ¬ (w.heap.size + 1 ∈ F) := fun hm => by have := HFL.out _ hm; omega
    have hb3 := (ha1.1.block (w.heap.size + 1) HWS.out hnF).trans HRES.out
    have e0 : w1.cell? ⟨w.heap.size + 1, 0, none⟩ = some (.int .u32 0) := by rw [cell_of hb3]; rfl
    have e1 : w1.cell? ⟨w.heap.size + 1, 1, none⟩ = some (.int .u32 0) := by rw [cell_of hb3]; rfl
    have e2 : w1.cell? ⟨w.heap.size + 1, 2, none⟩ = some (.string ⟨#[]⟩) := by rw [cell_of hb3]; rfl
    have e3 : w1.cell? ⟨w.heap.size + 1, 3, none⟩ = some (.bool false) := by rw [cell_of hb3]; rfl
    have f0 := frozen_of hb3 0
    have f1 := frozen_of hb3 1
    have f2 := frozen_of hb3 2
    have f3 := frozen_of hb3 3
    have HB3 := Lib.hid hb3
    have HB1 := Lib.hid hb1
    have HA1 := Lib.hid ha1
    clear hb3 hb1 ha1 hnF
    go_wp2_with fail
    exact bodyPost_ret (results_cell_row (P := Tryz.prog) rfl _ _ (w.heap.size + 1) 34 _ (0, 0) _ rfl (set4 _ _ _ _ _ _ _ _ (heap_setCell_same HB3.out 0 _) rfl) Tryz.underlying34 rfl infoBAns) rfl
      ⟨rfl, bstep_end HW.out HWS.out HFL.out HA1.out HB1.out (Fr.set4 ((Fr.refl (fun k => k = w.heap.size + 1) _).setCell (fun _ => rfl) _) _ _ _ _)⟩

set_option maxRecDepth 20000 in
set_option maxHeartbeats 2000000 in
theorem bstep_12 (b : Nat) (F : List Nat) (st : BSt) (kind slot ref size more by_ : Int) (num els off0 off : Nat) (text : List UInt8) (w : World) (h : BRep w b F st)  (o : Option (Nat × BSt))
    (hc : ∀ W, BRep W b F st → Calls Tryz.prog 60 #[.pointer (some ⟨b, 0, none⟩), .string (strOf text)] W (BRes W b F (numRes o))) :
    Calls Tryz.prog 31 #[.pointer (some ⟨b, 0, none⟩), .agg #[.int .u8 12, .int .u8 kind, .int .i64 slot, .int .u64 num, .int .u64 els, .int .u32 off0, .int .i64 ref, .int .i64 size, .int .i64 more, .int .i64 by_, .string (strOf text)], .int .u32 off] w (ARes w b F (numN o)) := by
  obtain ⟨S, hS⟩ : ∃ S, S = strOf text := ⟨_, rfl⟩
  rw [← hS] at hc ⊢
  clear hS
  have hW : Fr0 w ((w.alloc (.cells #[.int .u8 12, .int .u8 kind, .int .i64 slot, .int .u64 num, .int .u64 els, .int .u32 off0, .int .i64 ref, .int .i64 size, .int .i64 more, .int .i64 by_, .string S] 57)).alloc (.cells #[.int .u32 0, .int .u32 0, .string ⟨#[]⟩, .bool false] 34)) := ((Fr.refl _ w).alloc _).alloc _
  have hbW := h.keep hW (fun _ _ x => x)
  have hres : ((w.alloc (.cells #[.int .u8 12, .int .u8 kind, .int .i64 slot, .int .u64 num, .int .u64 els, .int .u32 off0, .int .i64 ref, .int .i64 size, .int .i64 more, .int .i64 by_, .string S] 57)).alloc (.cells #[.int .u32 0, .int .u32 0, .string ⟨#[]⟩, .bool false] 34)).heap[w.heap.size + 1]? = some (.cells #[.int .u32 0, .int .u32 0, .string ⟨#[]⟩, .bool false] 34) := by
    simp only [heap_alloc_get, size_alloc]; rw [if_pos trivial]
  have hWs : w.heap.size + 1 < ((w.alloc (.cells #[.int .u8 12, .int .u8 kind, .int .i64 slot, .int .u64 num, .int .u64 els, .int .u32 off0, .int .i64 ref, .int .i64 size, .int .i64 more, .int .i64 by_, .string S] 57)).alloc (.cells #[.int .u32 0, .int .u32 0, .string ⟨#[]⟩, .bool false] 34)).heap.size := by simp
  have HFL := Lib.hid h.below
  have HC := Lib.hid (hc _ hbW)
  have HRES := Lib.hid hres
  have HW := Lib.hid hW
  have HWS := Lib.hid hWs
  clear h hc hbW hW hres hWs
  cases o with
  | none =>
    go_enter Tryz.func31, Tryz.ntmps31
    go_wp2_with fail
    refine HC.out.mono ?_
    rintro e w1 ⟨⟨u, v, rfl⟩, hf⟩
    exact ⟨rfl, bstep_falls HW.out ⟨⟨u, v, rfl⟩, hf⟩⟩
  | some p =>
    obtain ⟨r, st1⟩ := p
    go_enter Tryz.func31, Tryz.ntmps31
    go_wp2_with fail
    refine HC.out.mono ?_
    rintro e w1 ⟨rfl, F1, hb1, ha1⟩
    have hnF : ¬ (w.heap.size + 1 ∈ F) := fun hm => by have := HFL.out _ hm; omega
    have hb3 := (ha1.1.block (w.heap.size + 1) HWS.out hnF).trans HRES.out
    have e0 : w1.cell? ⟨w.heap.size + 1, 0, none⟩ = some (.int .u32 0) := by rw [cell_of hb3]; rfl
    have e1 : w1.cell? ⟨w.heap.size + 1, 1, none⟩ = some (.int .u32 0) := by rw [cell_of hb3]; rfl
    have e2 : w1.cell? ⟨w.heap.size + 1, 2, none⟩ = some (.string ⟨#[]⟩) := by rw [cell_of hb3]; rfl
    have e3 : w1.cell? ⟨w.heap.size + 1, 3, none⟩ = some (.bool false) := by rw [cell_of hb3]; rfl
    have f0 := frozen_of hb3 0
    have f1 := frozen_of hb3 1
    have f2 := frozen_of hb3 2
    have f3 := frozen_of hb3 3
    have HB3 := Lib.hid hb3
    have HB1 := Lib.hid hb1
    have HA1 := Lib.hid ha1
    clear hb3 hb1 ha1 hnF
    go_wp2_with fail
    exact bodyPost_ret (results_cell_row (P := Tryz.prog) rfl _ _ (w.heap.size + 1) 34 _ (0, 0) _ rfl (set4 _ _ _ _ _ _ _ _ (heap_setCell_same HB3.out 0 _) rfl) Tryz.underlying34 rfl infoBAns) rfl
      ⟨rfl, bstep_end HW.out HWS.out HFL.out HA1.out HB1.out (Fr.set4 ((Fr.refl (fun k => k = w.heap.size + 1) _).setCell (fun _ => rfl) _) _ _ _ _)⟩

set_option maxRecDepth 20000 in
set_option maxHeartbeats 2000000 in
theorem bstep_15 (b : Nat) (F : List Nat) (st : BSt) (kind slot ref size more by_ : Int) (num els off0 off : Nat) (text : List UInt8) (w : World) (h : BRep w b F st)  (o : Option (Nat × BSt))
    (hc : ∀ W, BRep W b F st → Calls Tryz.prog 63 #[.pointer (some ⟨b, 0, none⟩), .string (strOf text)] W (BRes W b F (numRes o))) :
    Calls Tryz.prog 31 #[.pointer (some ⟨b, 0, none⟩), .agg #[.int .u8 15, .int .u8 kind, .int .i64 slot, .int .u64 num, .int .u64 els, .int .u32 off0, .int .i64 ref, .int .i64 size, .int .i64 more, .int .i64 by_, .string (strOf text)], .int .u32 off] w (ARes w b F (numN o)) := by
  obtain ⟨S, hS⟩ : ∃ S, S = strOf text := ⟨_, rfl⟩
  rw [← hS] at hc ⊢
  clear hS
  have hW : Fr0 w ((w.alloc (.cells #[.int .u8 15, .int .u8 kind, .int .i64 slot, .int .u64 num, .int .u64 els, .int .u32 off0, .int .i64 ref, .int .i64 size, .int .i64 more, .int .i64 by_, .string S] 57)).alloc (.cells #[.int .u32 0, .int .u32 0, .string ⟨#[]⟩, .bool false] 34)) := ((Fr.refl _ w).alloc _).alloc _
  have hbW := h.keep hW (fun _ _ x => x)
  have hres : ((w.alloc (.cells #[.int .u8 15, .int .u8 kind, .int .i64 slot, .int .u64 num, .int .u64 els, .int .u32 off0, .int .i64 ref, .int .i64 size, .int .i64 more, .int .i64 by_, .string S] 57)).alloc (.cells #[.int .u32 0, .int .u32 0, .string ⟨#[]⟩, .bool false] 34)).heap[w.heap.size + 1]? = some (.cells #[.int .u32 0, .int .u32 0, .string ⟨#[]⟩, .bool false] 34) := by
    simp only [heap_alloc_get, size_alloc]; rw [if_pos trivial]
  have hWs : w.heap.size + 1 < ((w.alloc (.cells #[.int .u8 15, .int .u8 kind, .int .i64 slot, .int .u64 num, .int .u64 els, .int .u32 off0, .int .i64 ref, .int .i64 size, .int .i64 more, .int .i64 by_, .string S] 57)).alloc (.cells #[.int .u32 0, .int .u32 0, .string ⟨#[]⟩, .bool false] 34)).heap.size := by simp
  have HFL := Lib.hid h.below
  have HC := Lib.hid (hc _ hbW)
  have HRES := Lib.hid hres
  have HW := Lib.hid hW
  have HWS := Lib.hid hWs
  clear h hc hbW hW hres hWs
  cases o with
  | none =>
    go_enter Tryz.func31, Tryz.ntmps31
    go_wp2_with fail
    refine HC.out.mono ?_
    rintro e w1 ⟨⟨u, v, rfl⟩, hf⟩
    exact ⟨rfl, bstep_falls HW.out ⟨⟨u, v, rfl⟩, hf⟩⟩
  | some p =>
    obtain ⟨r, st1⟩ := p
    go_enter Tryz.func31, Tryz.ntmps31
    go_wp2_with fail
    refine HC.out.mono ?_
    rintro e w1 ⟨rfl, F1, hb1, ha1⟩
    have hnF : ¬ (w.heap.size + 1 ∈ F) := fun hm => by have := HFL.out _ hm; omega
    have hb3 := (ha1.1.block (w.heap.size + 1) HWS.out hnF).trans HRES.out
    have e0 : w1.cell? ⟨w.heap.size + 1, 0, none⟩ = some (.int .u32 0) := by rw [cell_of hb3]; rfl
    have e1 : w1.cell? ⟨w.heap.size + 1, 1, none⟩ = some (.int .u32 0) := by rw [cell_of hb3]; rfl
    have e2 : w1.cell? ⟨w.heap.size + 1, 2, none⟩ = some (.string ⟨#[]⟩) := by rw [cell_of hb3]; rfl
    have e3 : w1.cell? ⟨w.heap.size + 1, 3, none⟩ = some (.bool false) := by rw [cell_of hb3]; rfl
    have f0 := frozen_of hb3 0
    have f1 := frozen_of hb3 1
    have f2 := frozen_of hb3 2
    have f3 := frozen_of hb3 3
    have HB3 := Lib.hid hb3
    have HB1 := Lib.hid hb1
    have HA1 := Lib.hid ha1
    clear hb3 hb1 ha1 hnF
    go_wp2_with fail
    exact bodyPost_ret (results_cell_row (P := Tryz.prog) rfl _ _ (w.heap.size + 1) 34 _ (0, 0) _ rfl (set4 _ _ _ _ _ _ _ _ (heap_setCell_same HB3.out 0 _) rfl) Tryz.underlying34 rfl infoBAns) rfl
      ⟨rfl, bstep_end HW.out HWS.out HFL.out HA1.out HB1.out (Fr.set4 ((Fr.refl (fun k => k = w.heap.size + 1) _).setCell (fun _ => rfl) _) _ _ _ _)⟩

set_option maxRecDepth 20000 in
set_option maxHeartbeats 2000000 in
theorem bstep_16 (b : Nat) (F : List Nat) (st : BSt) (kind slot ref by_ : Int) (size more : Nat) (num els off0 off : Nat) (text : List UInt8) (w : World) (h : BRep w b F st)  (o : Option BSt)
    (hc : ∀ W, BRep W b F st → Calls Tryz.prog 64 #[.pointer (some ⟨b, 0, none⟩), .int .i64 (size : Nat), .int .i64 (more : Nat)] W (BRes W b F (unitRes o))) :
    Calls Tryz.prog 31 #[.pointer (some ⟨b, 0, none⟩), .agg #[.int .u8 16, .int .u8 kind, .int .i64 slot, .int .u64 num, .int .u64 els, .int .u32 off0, .int .i64 ref, .int .i64 (size : Nat), .int .i64 (more : Nat), .int .i64 by_, .string (strOf text)], .int .u32 off] w (ARes w b F (unitN o)) := by
  obtain ⟨S, hS⟩ : ∃ S, S = strOf text := ⟨_, rfl⟩
  rw [← hS] 
  clear hS
  have hW : Fr0 w ((w.alloc (.cells #[.int .u8 16, .int .u8 kind, .int .i64 slot, .int .u64 num, .int .u64 els, .int .u32 off0, .int .i64 ref, .int .i64 (size : Nat), .int .i64 (more : Nat), .int .i64 by_, .string S] 57)).alloc (.cells #[.int .u32 0, .int .u32 0, .string ⟨#[]⟩, .bool false] 34)) := ((Fr.refl _ w).alloc _).alloc _
  have hbW := h.keep hW (fun _ _ x => x)
  have hres : ((w.alloc (.cells #[.int .u8 16, .int .u8 kind, .int .i64 slot, .int .u64 num, .int .u64 els, .int .u32 off0, .int .i64 ref, .int .i64 (size : Nat), .int .i64 (more : Nat), .int .i64 by_, .string S] 57)).alloc (.cells #[.int .u32 0, .int .u32 0, .string ⟨#[]⟩, .bool false] 34)).heap[w.heap.size + 1]? = some (.cells #[.int .u32 0, .int .u32 0, .string ⟨#[]⟩, .bool false] 34) := by
    simp only [heap_alloc_get, size_alloc]; rw [if_pos trivial]
  have hWs : w.heap.size + 1 < ((w.alloc (.cells #[.int .u8 16, .int .u8 kind, .int .i64 slot, .int .u64 num, .int .u64 els, .int .u32 off0, .int .i64 ref, .int .i64 (size : Nat), .int .i64 (more : Nat), .int .i64 by_, .string S] 57)).alloc (.cells #[.int .u32 0, .int .u32 0, .string ⟨#[]⟩, .bool false] 34)).heap.size := by simp
  have HFL := Lib.hid h.below
  have HC := Lib.hid (hc _ hbW)
  have HRES := Lib.hid hres
  have HW := Lib.hid hW
  have HWS := Lib.hid hWs
  clear h hc hbW hW hres hWs
  cases o with
  | none =>
    go_enter Tryz.func31, Tryz.ntmps31
    go_wp2_with fail
    refine HC.out.mono ?_
    rintro e w1 ⟨⟨u, v, rfl⟩, hf⟩
    exact ⟨rfl, bstep_falls HW.out ⟨⟨u, v, rfl⟩, hf⟩⟩
  | some p =>
    obtain st1 := p
    go_enter Tryz.func31, Tryz.ntmps31
    go_wp2_with fail
    refine HC.out.mono ?_
    rintro e w1 ⟨rfl, F1, hb1, ha1⟩
    have hnF : ¬ (w.heap.size + 1 ∈ F) := fun hm => by have := HFL.out _ hm; omega
    have hb3 := (ha1.1.block (w.heap.size + 1) HWS.out hnF).trans HRES.out
    have e0 : w1.cell? ⟨w.heap.size + 1, 0, none⟩ = some (.int .u32 0) := by rw [cell_of hb3]; rfl
    have e1 : w1.cell? ⟨w.heap.size + 1, 1, none⟩ = some (.int .u32 0) := by rw [cell_of hb3]; rfl
    have e2 : w1.cell? ⟨w.heap.size + 1, 2, none⟩ = some (.string ⟨#[]⟩) := by rw [cell_of hb3]; rfl
    have e3 : w1.cell? ⟨w.heap.size + 1, 3, none⟩ = some (.bool false) := by rw [cell_of hb3]; rfl
    have f0 := frozen_of hb3 0
    have f1 := frozen_of hb3 1
    have f2 := frozen_of hb3 2
    have f3 := frozen_of hb3 3
    have HB3 := Lib.hid hb3
    have HB1 := Lib.hid hb1
    have HA1 := Lib.hid ha1
    clear hb3 hb1 ha1 hnF
    go_wp2_with fail
    exact bodyPost_ret (results_cell_row (P := Tryz.prog) rfl _ _ (w.heap.size + 1) 34 _ (0, 0) _ rfl (set4 _ _ _ _ _ _ _ _ (HB3.out) rfl) Tryz.underlying34 rfl infoBAns) rfl
      ⟨rfl, bstep_end HW.out HWS.out HFL.out HA1.out HB1.out (Fr.set4 (Fr.refl _ _) _ _ _ _)⟩

set_option maxRecDepth 20000 in
set_option maxHeartbeats 2000000 in
theorem bstep_17 (b : Nat) (F : List Nat) (st : BSt) (kind slot ref size more by_ : Int) (num els off0 off : Nat) (text : List UInt8) (w : World) (h : BRep w b F st)  (o : Option BSt)
    (hc : ∀ W, BRep W b F st → Calls Tryz.prog 65 #[.pointer (some ⟨b, 0, none⟩), .int .u8 kind, .int .u64 num] W (BRes W b F (unitRes o))) :
    Calls Tryz.prog 31 #[.pointer (some ⟨b, 0, none⟩), .agg #[.int .u8 17, .int .u8 kind, .int .i64 slot, .int .u64 num, .int .u64 els, .int .u32 off0, .int .i64 ref, .int .i64 size, .int .i64 more, .int .i64 by_, .string (strOf text)], .int .u32 off] w (ARes w b F (unitN o)) := by
  obtain ⟨S, hS⟩ : ∃ S, S = strOf text := ⟨_, rfl⟩
  rw [← hS] 
  clear hS
  have hW : Fr0 w ((w.alloc (.cells #[.int .u8 17, .int .u8 kind, .int .i64 slot, .int .u64 num, .int .u64 els, .int .u32 off0, .int .i64 ref, .int .i64 size, .int .i64 more, .int .i64 by_, .string S] 57)).alloc (.cells #[.int .u32 0, .int .u32 0, .string ⟨#[]⟩, .bool false] 34)) := ((Fr.refl _ w).alloc _).alloc _
  have hbW := h.keep hW (fun _ _ x => x)
  have hres : ((w.alloc (.cells #[.int .u8 17, .int .u8 kind, .int .i64 slot, .int .u64 num, .int .u64 els, .int .u32 off0, .int .i64 ref, .int .i64 size, .int .i64 more, .int .i64 by_, .string S] 57)).alloc (.cells #[.int .u32 0, .int .u32 0, .string ⟨#[]⟩, .bool false] 34)).heap[w.heap.size + 1]? = some (.cells #[.int .u32 0, .int .u32 0, .string ⟨#[]⟩, .bool false] 34) := by
    simp only [heap_alloc_get, size_alloc]; rw [if_pos trivial]
  have hWs : w.heap.size + 1 < ((w.alloc (.cells #[.int .u8 17, .int .u8 kind, .int .i64 slot, .int .u64 num, .int .u64 els, .int .u32 off0, .int .i64 ref, .int .i64 size, .int .i64 more, .int .i64 by_, .string S] 57)).alloc (.cells #[.int .u32 0, .int .u32 0, .string ⟨#[]⟩, .bool false] 34)).heap.size := by simp
  have HFL := Lib.hid h.below
  have HC := Lib.hid (hc _ hbW)
  have HRES := Lib.hid hres
  have HW := Lib.hid hW
  have HWS := Lib.hid hWs
  clear h hc hbW hW hres hWs
  cases o with
  | none =>
    go_enter Tryz.func31, Tryz.ntmps31
    go_wp2_with fail
    refine HC.out.mono ?_
    rintro e w1 ⟨⟨u, v, rfl⟩, hf⟩
    exact ⟨rfl, bstep_falls HW.out ⟨⟨u, v, rfl⟩, hf⟩⟩
  | some p =>
    obtain st1 := p
    go_enter Tryz.func31, Tryz.ntmps31
    go_wp2_with fail
    refine HC.out.mono ?_
    rintro e w1 ⟨rfl, F1, hb1, ha1⟩
    have hnF : ¬ (w.heap.size + 1 ∈ F) := fun hm => by have := HFL.out _ hm; omega
    have hb3 := (ha1.1.block (w.heap.size + 1) HWS.out hnF).trans HRES.out
    have e0 : w1.cell? ⟨w.heap.size + 1, 0, none⟩ = some (.int .u32 0) := by rw [cell_of hb3]; rfl
    have e1 : w1.cell? ⟨w.heap.size + 1, 1, none⟩ = some (.int .u32 0) := by rw [cell_of hb3]; rfl
    have e2 : w1.cell? ⟨w.heap.size + 1, 2, none⟩ = some (.string ⟨#[]⟩) := by rw [cell_of hb3]; rfl
    have e3 : w1.cell? ⟨w.heap.size + 1, 3, none⟩ = some (.bool false) := by rw [cell_of hb3]; rfl
    have f0 := frozen_of hb3 0
    have f1 := frozen_of hb3 1
    have f2 := frozen_of hb3 2
    have f3 := frozen_of hb3 3
    have HB3 := Lib.hid hb3
    have HB1 := Lib.hid hb1
    have HA1 := Lib.hid ha1
    clear hb3 hb1 ha1 hnF
    go_wp2_with fail
    exact bodyPost_ret (results_cell_row (P := Tryz.prog) rfl _ _ (w.heap.size + 1) 34 _ (0, 0) _ rfl (set4 _ _ _ _ _ _ _ _ (HB3.out) rfl) Tryz.underlying34 rfl infoBAns) rfl
      ⟨rfl, bstep_end HW.out HWS.out HFL.out HA1.out HB1.out (Fr.set4 (Fr.refl _ _) _ _ _ _)⟩

set_option maxRecDepth 20000 in
set_option maxHeartbeats 2000000 in
theorem bstep_18 (b : Nat) (F : List Nat) (st : BSt) (kind ref size more by_ : Int) (slot : Nat) (num els off0 off : Nat) (text : List UInt8) (w : World) (h : BRep w b F st)  (o : Option BSt)
    (hc : ∀ W, BRep W b F st → Calls Tryz.prog 66 #[.pointer (some ⟨b, 0, none⟩), .int .i64 (slot : Nat)] W (BRes W b F (unitRes o))) :
    Calls Tryz.prog 31 #[.pointer (some ⟨b, 0, none⟩), .agg #[.int .u8 18, .int .u8 kind, .int .i64 (slot : Nat), .int .u64 num, .int .u64 els, .int .u32 off0, .int .i64 ref, .int .i64 size, .int .i64 more, .int .i64 by_, .string (strOf text)], .int .u32 off] w (ARes w b F (unitN o)) := by
  obtain ⟨S, hS⟩ : ∃ S, S = strOf text := ⟨_, rfl⟩
  rw [← hS] 
  clear hS
  have hW : Fr0 w ((w.alloc (.cells #[.int .u8 18, .int .u8 kind, .int .i64 (slot : Nat), .int .u64 num, .int .u64 els, .int .u32 off0, .int .i64 ref, .int .i64 size, .int .i64 more, .int .i64 by_, .string S] 57)).alloc (.cells #[.int .u32 0, .int .u32 0, .string ⟨#[]⟩, .bool false] 34)) := ((Fr.refl _ w).alloc _).alloc _
  have hbW := h.keep hW (fun _ _ x => x)
  have hres : ((w.alloc (.cells #[.int .u8 18, .int .u8 kind, .int .i64 (slot : Nat), .int .u64 num, .int .u64 els, .int .u32 off0, .int .i64 ref, .int .i64 size, .int .i64 more, .int .i64 by_, .string S] 57)).alloc (.cells #[.int .u32 0, .int .u32 0, .string ⟨#[]⟩, .bool false] 34)).heap[w.heap.size + 1]? = some (.cells #[.int .u32 0, .int .u32 0, .string ⟨#[]⟩, .bool false] 34) := by
    simp only [heap_alloc_get, size_alloc]; rw [if_pos trivial]
  have hWs : w.heap.size + 1 < ((w.alloc (.cells #[.int .u8 18, .int .u8 kind, .int .i64 (slot : Nat), .int .u64 num, .int .u64 els, .int .u32 off0, .int .i64 ref, .int .i64 size, .int .i64 more, .int .i64 by_, .string S] 57)).alloc (.cells #[.int .u32 0, .int .u32 0, .string ⟨#[]⟩, .bool false] 34)).heap.size := by simp
  have HFL := Lib.hid h.below
  have HC := Lib.hid (hc _ hbW)
  have HRES := Lib.hid hres
  have HW := Lib.hid hW
  have HWS := Lib.hid hWs
  clear h hc hbW hW hres hWs
  cases o with
  | none =>
    go_enter Tryz.func31, Tryz.ntmps31
    go_wp2_with fail
    refine HC.out.mono ?_
    rintro e w1 ⟨⟨u, v, rfl⟩, hf⟩
    exact ⟨rfl, bstep_falls HW.out ⟨⟨u, v, rfl⟩, hf⟩⟩
  | some p =>
    obtain st1 := p
    go_enter Tryz.func31, Tryz.ntmps31
    go_wp2_with fail
    refine HC.out.mono ?_
    rintro e w1 ⟨rfl, F1, hb1, ha1⟩
    have hnF : ¬ (w.heap.size + 1 ∈ F) := fun hm => by have := HFL.out _ hm; omega
    have hb3 := (ha1.1.block (w.heap.size + 1) HWS.out hnF).trans HRES.out
    have e0 : w1.cell? ⟨w.heap.size + 1, 0, none⟩ = some (.int .u32 0) := by rw [cell_of hb3]; rfl
    have e1 : w1.cell? ⟨w.heap.size + 1, 1, none⟩ = some (.int .u32 0) := by rw [cell_of hb3]; rfl
    have e2 : w1.cell? ⟨w.heap.size + 1, 2, none⟩ = some (.string ⟨#[]⟩) := by rw [cell_of hb3]; rfl
    have e3 : w1.cell? ⟨w.heap.size + 1, 3, none⟩ = some (.bool false) := by rw [cell_of hb3]; rfl
    have f0 := frozen_of hb3 0
    have f1 := frozen_of hb3 1
    have f2 := frozen_of hb3 2
    have f3 := frozen_of hb3 3
    have HB3 := Lib.hid hb3
    have HB1 := Lib.hid hb1
    have HA1 := Lib.hid ha1
    clear hb3 hb1 ha1 hnF
    go_wp2_with fail
    exact bodyPost_ret (results_cell_row (P := Tryz.prog) rfl _ _ (w.heap.size + 1) 34 _ (0, 0) _ rfl (set4 _ _ _ _ _ _ _ _ (HB3.out) rfl) Tryz.underlying34 rfl infoBAns) rfl
      ⟨rfl, bstep_end HW.out HWS.out HFL.out HA1.out HB1.out (Fr.set4 (Fr.refl _ _) _ _ _ _)⟩

set_option maxRecDepth 20000 in
set_option maxHeartbeats 2000000 in
theorem bstep_19 (b : Nat) (F : List Nat) (st : BSt) (kind slot ref size more by_ : Int) (num els off0 off : Nat) (text : List UInt8) (w : World) (h : BRep w b F st)  (o : Option BSt)
    (hc : ∀ W, BRep W b F st → Calls Tryz.prog 67 #[.pointer (some ⟨b, 0, none⟩), .int .u32 off] W (BRes W b F (unitRes o))) :
    Calls Tryz.prog 31 #[.pointer (some ⟨b, 0, none⟩), .agg #[.int .u8 19, .int .u8 kind, .int .i64 slot, .int .u64 num, .int .u64 els, .int .u32 off0, .int .i64 ref, .int .i64 size, .int .i64 more, .int .i64 by_, .string (strOf text)], .int .u32 off] w (ARes w b F (unitN o)) := by
  obtain ⟨S, hS⟩ : ∃ S, S = strOf text := ⟨_, rfl⟩
  rw [← hS] 
  clear hS
  have hW : Fr0 w ((w.alloc (.cells #[.int .u8 19, .int .u8 kind, .int .i64 slot, .int .u64 num, .int .u64 els, .int .u32 off0, .int .i64 ref, .int .i64 size, .int .i64 more, .int .i64 by_, .string S] 57)).alloc (.cells #[.int .u32 0, .int .u32 0, .string ⟨#[]⟩, .bool false] 34)) := ((Fr.refl _ w).alloc _).alloc _
  have hbW := h.keep hW (fun _ _ x => x)
  have hres : ((w.alloc (.cells #[.int .u8 19, .int .u8 kind, .int .i64 slot, .int .u64 num, .int .u64 els, .int .u32 off0, .int .i64 ref, .int .i64 size, .int .i64 more, .int .i64 by_, .string S] 57)).alloc (.cells #[.int .u32 0, .int .u32 0, .string ⟨#[]⟩, .bool false] 34)).heap[w.heap.size + 1]? = some (.cells #[.int .u32 0, .int .u32 0, .string ⟨#[]⟩, .bool false] 34) := by
    simp only [heap_alloc_get, size_alloc]; rw [if_pos trivial]
  have hWs : w.heap.size + 1 < ((w.alloc (.cells #[.int .u8 19, .int .u8 kind, .int .i64 slot, .int .u64 num, .int .u64 els, .int .u32 off0, .int .i64 ref, .int .i64 size, .int .i64 more, .int .i64 by_, .string S] 57)).alloc (.cells #[.int .u32 0, .int .u32 0, .string ⟨#[]⟩, .bool false] 34)).heap.size := by simp
  have HFL := Lib.hid h.below
  have HC := Lib.hid (hc _ hbW)
  have HRES := Lib.hid hres
  have HW := Lib.hid hW
  have HWS := Lib.hid hWs
  clear h hc hbW hW hres hWs
  cases o with
  | none =>
    go_enter Tryz.func31, Tryz.ntmps31
    go_wp2_with fail
    refine HC.out.mono ?_
    rintro e w1 ⟨⟨u, v, rfl⟩, hf⟩
    exact ⟨rfl, bstep_falls HW.out ⟨⟨u, v, rfl⟩, hf⟩⟩
  | some p =>
    obtain st1 := p
    go_enter Tryz.func31, Tryz.ntmps31
    go_wp2_with fail
    refine HC.out.mono ?_
    rintro e w1 ⟨rfl, F1, hb1, ha1⟩
    have hnF : ¬ (w.heap.size + 1 ∈ F) := fun hm => by have := HFL.out _ hm; omega
    have hb3 := (ha1.1.block (w.heap.size + 1) HWS.out hnF).trans HRES.out
    have e0 : w1.cell? ⟨w.heap.size + 1, 0, none⟩ = some (.int .u32 0) := by rw [cell_of hb3]; rfl
    have e1 : w1.cell? ⟨w.heap.size + 1, 1, none⟩ = some (.int .u32 0) := by rw [cell_of hb3]; rfl
    have e2 : w1.cell? ⟨w.heap.size + 1, 2, none⟩ = some (.string ⟨#[]⟩) := by rw [cell_of hb3]; rfl
    have e3 : w1.cell? ⟨w.heap.size + 1, 3, none⟩ = some (.bool false) := by rw [cell_of hb3]; rfl
    have f0 := frozen_of hb3 0
    have f1 := frozen_of hb3 1
    have f2 := frozen_of hb3 2
    have f3 := frozen_of hb3 3
    have HB3 := Lib.hid hb3
    have HB1 := Lib.hid hb1
    have HA1 := Lib.hid ha1
    clear hb3 hb1 ha1 hnF
    go_wp2_with fail
    exact bodyPost_ret (results_cell_row (P := Tryz.prog) rfl _ _ (w.heap.size + 1) 34 _ (0, 0) _ rfl (set4 _ _ _ _ _ _ _ _ (HB3.out) rfl) Tryz.underlying34 rfl infoBAns) rfl
      ⟨rfl, bstep_end HW.out HWS.out HFL.out HA1.out HB1.out (Fr.set4 (Fr.refl _ _) _ _ _ _)⟩
end Go.Proofs.YtfplgggepoaajaaGreat
