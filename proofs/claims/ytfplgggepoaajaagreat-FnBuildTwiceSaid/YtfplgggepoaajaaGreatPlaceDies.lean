/- The Builder's Place.. without room: they panic. -/
import Derived.Test.YtfplgggepoaajaaGreatOps3
namespace Go.Proofs.YtfplgggepoaajaaGreat
open Go.RowKit
set_option linter.unusedVariables false
set_option linter.unusedSimpArgs false

set_option maxHeartbeats 2000000 in
theorem PlaceBool_dies (b Y : Nat) (r : BRest) (room least : Nat) (bytes : List UInt8) (c : Array Value) (x : Bool) (w : World) (h : BB w b Y r room least bytes c) (hr : room < 1) :
    Calls Tryz.prog 107 #[.pointer (some ⟨b, 0, none⟩), .bool x] w (Falls2 (fun k => k = b ∨ k = Y) w) := by
  have hlim := h.lim
  obtain ⟨q, hq⟩ : ∃ q : Int, q = (((room : Nat) : Int) - 1) % 4294967296 := ⟨_, rfl⟩
  obtain ⟨L, hL⟩ : ∃ L, L = room + bytes.length := ⟨_, rfl⟩
  obtain ⟨cap, hcap⟩ : ∃ cap, cap = c.size := ⟨_, rfl⟩
  obtain ⟨fu, fv, fn, hsl⟩ := run_slice_from_out' (P := Tryz.prog) 49 (some ⟨Y, 0, none⟩) L cap .u32 q Tryz.underlying49 (.inr (by omega))
  have hc1 := heap_setCell_same h.hb 5 (.int .u32 q)
  have c5 : w.cell? ⟨b, 5, none⟩ = some (.int .u32 room) := by rw [cell_of h.hb]; rfl
  have f5 := frozen_of h.hb 5
  have d0 : (w.setCell ⟨b, 5, none⟩ (.int .u32 q)).cell? ⟨b, 0, none⟩ = some (.slice (some ⟨Y, 0, none⟩) L cap) := by rw [cell_of hc1, hL, hcap]; rfl
  have d5 : (w.setCell ⟨b, 5, none⟩ (.int .u32 q)).cell? ⟨b, 5, none⟩ = some (.int .u32 q) := by rw [cell_of hc1]; rfl
  have hF : Fr (fun k => k = b ∨ k = Y) w (w.setCell ⟨b, 5, none⟩ (.int .u32 q)) := (Fr.refl _ w).setCell (fun _ => .inl rfl) _
  have HF := Lib.hid hF
  have hq2 := hq.symm
  clear h hc1 hlim hr hL hcap hF hq
  go_enter Tryz.func107, Tryz.ntmps107
  go_wp2_with fail
  clear hq2
  generalize w.setCell ⟨b, 5, none⟩ (.int .u32 q) = w1 at *
  refine wp_region_held_drew (S := fun w' => w'.cell? ⟨b, 0, none⟩ = some (.slice (some ⟨Y, 0, none⟩) L cap) ∧ w'.cell? ⟨b, 5, none⟩ = some (.int .u32 q) ∧ ∃ k, w' = w1.drewN k) (by kernel_rfl) ⟨d0, d5, 1, rfl⟩ (fun hHeld => ?_)
  refine wpAnyH_take (i := 0) (v := .pointer (some ⟨b, 0, none⟩)) rfl (by kernel_rfl) (by kernel_rfl) (by kernel_rfl) (fun _ _ _ h => h) (Or.inl ⟨by rfl, ?_⟩) (by assumption) ?_
  · rintro _ ⟨h0, h5, n, rfl⟩; go_simp
  simp only [Act.put, List.setIfInBounds_toArray, List.set_cons_zero, List.set_cons_succ]
  refine wpAnyH_take (i := 1) (v := .pointer (some ⟨b, 0, none⟩)) rfl (by kernel_rfl) (by kernel_rfl) (by kernel_rfl) (fun _ _ _ h => h) (Or.inl ⟨by rfl, ?_⟩) (by assumption) ?_
  · rintro _ ⟨h0, h5, n, rfl⟩; go_simp
  simp only [Act.put, List.setIfInBounds_toArray, List.set_cons_zero, List.set_cons_succ]
  refine wpAnyH_take (i := 2) (v := .pointer (some ⟨b, 0, none⟩)) rfl (by kernel_rfl) (by kernel_rfl) (by kernel_rfl) (fun _ _ _ h => h) (Or.inl ⟨by rfl, ?_⟩) (by assumption) ?_
  · rintro _ ⟨h0, h5, n, rfl⟩; go_simp
  simp only [Act.put, List.setIfInBounds_toArray, List.set_cons_zero, List.set_cons_succ]
  refine wpAnyH_take (i := 3) (v := .slice (some ⟨Y, 0, none⟩) L cap) rfl (by kernel_rfl) (by kernel_rfl) (by kernel_rfl) (fun _ _ _ h => h) (Or.inl ⟨by rfl, ?_⟩) (by assumption) ?_
  · rintro _ ⟨h0, h5, n, rfl⟩; go_simp
  simp only [Act.put, List.setIfInBounds_toArray, List.set_cons_zero, List.set_cons_succ]
  refine wpAnyH_take (i := 4) (v := .pointer (some ⟨b, 0, none⟩)) rfl (by kernel_rfl) (by kernel_rfl) (by kernel_rfl) (fun _ _ _ h => h) (Or.inl ⟨by rfl, ?_⟩) (by assumption) ?_
  · rintro _ ⟨h0, h5, n, rfl⟩; go_simp
  simp only [Act.put, List.setIfInBounds_toArray, List.set_cons_zero, List.set_cons_succ]
  refine wpAnyH_take (i := 5) (v := .pointer (some ⟨b, 0, none⟩)) rfl (by kernel_rfl) (by kernel_rfl) (by kernel_rfl) (fun _ _ _ h => h) (Or.inl ⟨by rfl, ?_⟩) (by assumption) ?_
  · rintro _ ⟨h0, h5, n, rfl⟩; go_simp
  simp only [Act.put, List.setIfInBounds_toArray, List.set_cons_zero, List.set_cons_succ]
  refine wpAnyH_take (i := 6) (v := .pointer (some ⟨b, 5, none⟩)) rfl (by kernel_rfl) (by kernel_rfl) (by kernel_rfl) (fun _ _ _ h => h) (Or.inl ⟨by rfl, ?_⟩) (by assumption) ?_
  · rintro _ ⟨h0, h5, n, rfl⟩; go_simp
  simp only [Act.put, List.setIfInBounds_toArray, List.set_cons_zero, List.set_cons_succ]
  refine wpAnyH_take (i := 7) (v := .int .u32 q) rfl (by kernel_rfl) (by kernel_rfl) (by kernel_rfl) (fun _ _ _ h => h) (Or.inl ⟨by rfl, ?_⟩) (by assumption) ?_
  · rintro _ ⟨h0, h5, n, rfl⟩; go_simp
  simp only [Act.put, List.setIfInBounds_toArray, List.set_cons_zero, List.set_cons_succ]
  refine wpAnyH_take (i := 9) (v := .bool x) rfl (by kernel_rfl) (by kernel_rfl) (by kernel_rfl) (fun _ _ _ h => h) (Or.inl ⟨by rfl, ?_⟩) (by assumption) ?_
  · rintro _ ⟨h0, h5, n, rfl⟩; go_simp
  simp only [Act.put, List.setIfInBounds_toArray, List.set_cons_zero, List.set_cons_succ]
  refine wpAnyH_ready (rs := [8]) (by kernel_rfl) (by simp) ?_
  refine AllReadyH.cons rfl (fun K hK => ?_) AllReadyH.nil
  go_simp
  exact ⟨rfl, ⟨_, _, rfl⟩, HF.out.drewN _⟩

set_option maxHeartbeats 2000000 in
theorem PlaceUint8_dies (b Y : Nat) (r : BRest) (room least : Nat) (bytes : List UInt8) (c : Array Value) (x : Int) (w : World) (h : BB w b Y r room least bytes c) (hr : room < 1) :
    Calls Tryz.prog 108 #[.pointer (some ⟨b, 0, none⟩), .int .u8 x] w (Falls2 (fun k => k = b ∨ k = Y) w) := by
  have hlim := h.lim
  obtain ⟨q, hq⟩ : ∃ q : Int, q = (((room : Nat) : Int) - 1) % 4294967296 := ⟨_, rfl⟩
  obtain ⟨L, hL⟩ : ∃ L, L = room + bytes.length := ⟨_, rfl⟩
  obtain ⟨cap, hcap⟩ : ∃ cap, cap = c.size := ⟨_, rfl⟩
  obtain ⟨fu, fv, fn, hsl⟩ := run_slice_from_out' (P := Tryz.prog) 49 (some ⟨Y, 0, none⟩) L cap .u32 q Tryz.underlying49 (.inr (by omega))
  have hc1 := heap_setCell_same h.hb 5 (.int .u32 q)
  have c5 : w.cell? ⟨b, 5, none⟩ = some (.int .u32 room) := by rw [cell_of h.hb]; rfl
  have f5 := frozen_of h.hb 5
  have d0 : (w.setCell ⟨b, 5, none⟩ (.int .u32 q)).cell? ⟨b, 0, none⟩ = some (.slice (some ⟨Y, 0, none⟩) L cap) := by rw [cell_of hc1, hL, hcap]; rfl
  have d5 : (w.setCell ⟨b, 5, none⟩ (.int .u32 q)).cell? ⟨b, 5, none⟩ = some (.int .u32 q) := by rw [cell_of hc1]; rfl
  have hF : Fr (fun k => k = b ∨ k = Y) w (w.setCell ⟨b, 5, none⟩ (.int .u32 q)) := (Fr.refl _ w).setCell (fun _ => .inl rfl) _
  have HF := Lib.hid hF
  have hq2 := hq.symm
  clear h hc1 hlim hr hL hcap hF hq
  go_enter Tryz.func108, Tryz.ntmps108
  go_wp2_with fail
  clear hq2
  generalize w.setCell ⟨b, 5, none⟩ (.int .u32 q) = w1 at *
  refine wp_region_held_drew (S := fun w' => w'.cell? ⟨b, 0, none⟩ = some (.slice (some ⟨Y, 0, none⟩) L cap) ∧ w'.cell? ⟨b, 5, none⟩ = some (.int .u32 q) ∧ ∃ k, w' = w1.drewN k) (by kernel_rfl) ⟨d0, d5, 1, rfl⟩ (fun hHeld => ?_)
  refine wpAnyH_take (i := 0) (v := .pointer (some ⟨b, 0, none⟩)) rfl (by kernel_rfl) (by kernel_rfl) (by kernel_rfl) (fun _ _ _ h => h) (Or.inl ⟨by rfl, ?_⟩) (by assumption) ?_
  · rintro _ ⟨h0, h5, n, rfl⟩; go_simp
  simp only [Act.put, List.setIfInBounds_toArray, List.set_cons_zero, List.set_cons_succ]
  refine wpAnyH_take (i := 1) (v := .pointer (some ⟨b, 0, none⟩)) rfl (by kernel_rfl) (by kernel_rfl) (by kernel_rfl) (fun _ _ _ h => h) (Or.inl ⟨by rfl, ?_⟩) (by assumption) ?_
  · rintro _ ⟨h0, h5, n, rfl⟩; go_simp
  simp only [Act.put, List.setIfInBounds_toArray, List.set_cons_zero, List.set_cons_succ]
  refine wpAnyH_take (i := 2) (v := .pointer (some ⟨b, 0, none⟩)) rfl (by kernel_rfl) (by kernel_rfl) (by kernel_rfl) (fun _ _ _ h => h) (Or.inl ⟨by rfl, ?_⟩) (by assumption) ?_
  · rintro _ ⟨h0, h5, n, rfl⟩; go_simp
  simp only [Act.put, List.setIfInBounds_toArray, List.set_cons_zero, List.set_cons_succ]
  refine wpAnyH_take (i := 3) (v := .slice (some ⟨Y, 0, none⟩) L cap) rfl (by kernel_rfl) (by kernel_rfl) (by kernel_rfl) (fun _ _ _ h => h) (Or.inl ⟨by rfl, ?_⟩) (by assumption) ?_
  · rintro _ ⟨h0, h5, n, rfl⟩; go_simp
  simp only [Act.put, List.setIfInBounds_toArray, List.set_cons_zero, List.set_cons_succ]
  refine wpAnyH_take (i := 4) (v := .pointer (some ⟨b, 0, none⟩)) rfl (by kernel_rfl) (by kernel_rfl) (by kernel_rfl) (fun _ _ _ h => h) (Or.inl ⟨by rfl, ?_⟩) (by assumption) ?_
  · rintro _ ⟨h0, h5, n, rfl⟩; go_simp
  simp only [Act.put, List.setIfInBounds_toArray, List.set_cons_zero, List.set_cons_succ]
  refine wpAnyH_take (i := 5) (v := .pointer (some ⟨b, 0, none⟩)) rfl (by kernel_rfl) (by kernel_rfl) (by kernel_rfl) (fun _ _ _ h => h) (Or.inl ⟨by rfl, ?_⟩) (by assumption) ?_
  · rintro _ ⟨h0, h5, n, rfl⟩; go_simp
  simp only [Act.put, List.setIfInBounds_toArray, List.set_cons_zero, List.set_cons_succ]
  refine wpAnyH_take (i := 6) (v := .pointer (some ⟨b, 5, none⟩)) rfl (by kernel_rfl) (by kernel_rfl) (by kernel_rfl) (fun _ _ _ h => h) (Or.inl ⟨by rfl, ?_⟩) (by assumption) ?_
  · rintro _ ⟨h0, h5, n, rfl⟩; go_simp
  simp only [Act.put, List.setIfInBounds_toArray, List.set_cons_zero, List.set_cons_succ]
  refine wpAnyH_take (i := 7) (v := .int .u32 q) rfl (by kernel_rfl) (by kernel_rfl) (by kernel_rfl) (fun _ _ _ h => h) (Or.inl ⟨by rfl, ?_⟩) (by assumption) ?_
  · rintro _ ⟨h0, h5, n, rfl⟩; go_simp
  simp only [Act.put, List.setIfInBounds_toArray, List.set_cons_zero, List.set_cons_succ]
  refine wpAnyH_take (i := 9) (v := .int .u8 x) rfl (by kernel_rfl) (by kernel_rfl) (by kernel_rfl) (fun _ _ _ h => h) (Or.inl ⟨by rfl, ?_⟩) (by assumption) ?_
  · rintro _ ⟨h0, h5, n, rfl⟩; go_simp
  simp only [Act.put, List.setIfInBounds_toArray, List.set_cons_zero, List.set_cons_succ]
  refine wpAnyH_ready (rs := [8]) (by kernel_rfl) (by simp) ?_
  refine AllReadyH.cons rfl (fun K hK => ?_) AllReadyH.nil
  go_simp
  exact ⟨rfl, ⟨_, _, rfl⟩, HF.out.drewN _⟩

set_option maxHeartbeats 2000000 in
theorem PlaceByte_dies (b Y : Nat) (r : BRest) (room least : Nat) (bytes : List UInt8) (c : Array Value) (x : Int) (w : World) (h : BB w b Y r room least bytes c) (hr : room < 1) :
    Calls Tryz.prog 105 #[.pointer (some ⟨b, 0, none⟩), .int .u8 x] w (Falls2 (fun k => k = b ∨ k = Y) w) := by
  have hlim := h.lim
  obtain ⟨q, hq⟩ : ∃ q : Int, q = (((room : Nat) : Int) - 1) % 4294967296 := ⟨_, rfl⟩
  obtain ⟨L, hL⟩ : ∃ L, L = room + bytes.length := ⟨_, rfl⟩
  obtain ⟨cap, hcap⟩ : ∃ cap, cap = c.size := ⟨_, rfl⟩
  obtain ⟨fu, fv, fn, hsl⟩ := run_slice_from_out' (P := Tryz.prog) 49 (some ⟨Y, 0, none⟩) L cap .u32 q Tryz.underlying49 (.inr (by omega))
  have hc1 := heap_setCell_same h.hb 5 (.int .u32 q)
  have c5 : w.cell? ⟨b, 5, none⟩ = some (.int .u32 room) := by rw [cell_of h.hb]; rfl
  have f5 := frozen_of h.hb 5
  have d0 : (w.setCell ⟨b, 5, none⟩ (.int .u32 q)).cell? ⟨b, 0, none⟩ = some (.slice (some ⟨Y, 0, none⟩) L cap) := by rw [cell_of hc1, hL, hcap]; rfl
  have d5 : (w.setCell ⟨b, 5, none⟩ (.int .u32 q)).cell? ⟨b, 5, none⟩ = some (.int .u32 q) := by rw [cell_of hc1]; rfl
  have hF : Fr (fun k => k = b ∨ k = Y) w (w.setCell ⟨b, 5, none⟩ (.int .u32 q)) := (Fr.refl _ w).setCell (fun _ => .inl rfl) _
  have HF := Lib.hid hF
  have hq2 := hq.symm
  clear h hc1 hlim hr hL hcap hF hq
  go_enter Tryz.func105, Tryz.ntmps105
  go_wp2_with fail
  clear hq2
  generalize w.setCell ⟨b, 5, none⟩ (.int .u32 q) = w1 at *
  refine wp_region_held_drew (S := fun w' => w'.cell? ⟨b, 0, none⟩ = some (.slice (some ⟨Y, 0, none⟩) L cap) ∧ w'.cell? ⟨b, 5, none⟩ = some (.int .u32 q) ∧ ∃ k, w' = w1.drewN k) (by kernel_rfl) ⟨d0, d5, 1, rfl⟩ (fun hHeld => ?_)
  refine wpAnyH_take (i := 0) (v := .pointer (some ⟨b, 0, none⟩)) rfl (by kernel_rfl) (by kernel_rfl) (by kernel_rfl) (fun _ _ _ h => h) (Or.inl ⟨by rfl, ?_⟩) (by assumption) ?_
  · rintro _ ⟨h0, h5, n, rfl⟩; go_simp
  simp only [Act.put, List.setIfInBounds_toArray, List.set_cons_zero, List.set_cons_succ]
  refine wpAnyH_take (i := 1) (v := .pointer (some ⟨b, 0, none⟩)) rfl (by kernel_rfl) (by kernel_rfl) (by kernel_rfl) (fun _ _ _ h => h) (Or.inl ⟨by rfl, ?_⟩) (by assumption) ?_
  · rintro _ ⟨h0, h5, n, rfl⟩; go_simp
  simp only [Act.put, List.setIfInBounds_toArray, List.set_cons_zero, List.set_cons_succ]
  refine wpAnyH_take (i := 2) (v := .pointer (some ⟨b, 0, none⟩)) rfl (by kernel_rfl) (by kernel_rfl) (by kernel_rfl) (fun _ _ _ h => h) (Or.inl ⟨by rfl, ?_⟩) (by assumption) ?_
  · rintro _ ⟨h0, h5, n, rfl⟩; go_simp
  simp only [Act.put, List.setIfInBounds_toArray, List.set_cons_zero, List.set_cons_succ]
  refine wpAnyH_take (i := 3) (v := .slice (some ⟨Y, 0, none⟩) L cap) rfl (by kernel_rfl) (by kernel_rfl) (by kernel_rfl) (fun _ _ _ h => h) (Or.inl ⟨by rfl, ?_⟩) (by assumption) ?_
  · rintro _ ⟨h0, h5, n, rfl⟩; go_simp
  simp only [Act.put, List.setIfInBounds_toArray, List.set_cons_zero, List.set_cons_succ]
  refine wpAnyH_take (i := 4) (v := .pointer (some ⟨b, 0, none⟩)) rfl (by kernel_rfl) (by kernel_rfl) (by kernel_rfl) (fun _ _ _ h => h) (Or.inl ⟨by rfl, ?_⟩) (by assumption) ?_
  · rintro _ ⟨h0, h5, n, rfl⟩; go_simp
  simp only [Act.put, List.setIfInBounds_toArray, List.set_cons_zero, List.set_cons_succ]
  refine wpAnyH_take (i := 5) (v := .pointer (some ⟨b, 0, none⟩)) rfl (by kernel_rfl) (by kernel_rfl) (by kernel_rfl) (fun _ _ _ h => h) (Or.inl ⟨by rfl, ?_⟩) (by assumption) ?_
  · rintro _ ⟨h0, h5, n, rfl⟩; go_simp
  simp only [Act.put, List.setIfInBounds_toArray, List.set_cons_zero, List.set_cons_succ]
  refine wpAnyH_take (i := 6) (v := .pointer (some ⟨b, 5, none⟩)) rfl (by kernel_rfl) (by kernel_rfl) (by kernel_rfl) (fun _ _ _ h => h) (Or.inl ⟨by rfl, ?_⟩) (by assumption) ?_
  · rintro _ ⟨h0, h5, n, rfl⟩; go_simp
  simp only [Act.put, List.setIfInBounds_toArray, List.set_cons_zero, List.set_cons_succ]
  refine wpAnyH_take (i := 7) (v := .int .u32 q) rfl (by kernel_rfl) (by kernel_rfl) (by kernel_rfl) (fun _ _ _ h => h) (Or.inl ⟨by rfl, ?_⟩) (by assumption) ?_
  · rintro _ ⟨h0, h5, n, rfl⟩; go_simp
  simp only [Act.put, List.setIfInBounds_toArray, List.set_cons_zero, List.set_cons_succ]
  refine wpAnyH_take (i := 9) (v := .int .u8 x) rfl (by kernel_rfl) (by kernel_rfl) (by kernel_rfl) (fun _ _ _ h => h) (Or.inl ⟨by rfl, ?_⟩) (by assumption) ?_
  · rintro _ ⟨h0, h5, n, rfl⟩; go_simp
  simp only [Act.put, List.setIfInBounds_toArray, List.set_cons_zero, List.set_cons_succ]
  refine wpAnyH_ready (rs := [8]) (by kernel_rfl) (by simp) ?_
  refine AllReadyH.cons rfl (fun K hK => ?_) AllReadyH.nil
  go_simp
  exact ⟨rfl, ⟨_, _, rfl⟩, HF.out.drewN _⟩

set_option maxHeartbeats 2000000 in
theorem PlaceInt8_dies (b Y : Nat) (r : BRest) (room least : Nat) (bytes : List UInt8) (c : Array Value) (x : Int) (w : World) (h : BB w b Y r room least bytes c) (hr : room < 1) :
    Calls Tryz.prog 109 #[.pointer (some ⟨b, 0, none⟩), .int .i8 x] w (Falls2 (fun k => k = b ∨ k = Y) w) := by
  have hlim := h.lim
  obtain ⟨q, hq⟩ : ∃ q : Int, q = (((room : Nat) : Int) - 1) % 4294967296 := ⟨_, rfl⟩
  obtain ⟨L, hL⟩ : ∃ L, L = room + bytes.length := ⟨_, rfl⟩
  obtain ⟨cap, hcap⟩ : ∃ cap, cap = c.size := ⟨_, rfl⟩
  obtain ⟨fu, fv, fn, hsl⟩ := run_slice_from_out' (P := Tryz.prog) 49 (some ⟨Y, 0, none⟩) L cap .u32 q Tryz.underlying49 (.inr (by omega))
  have hc1 := heap_setCell_same h.hb 5 (.int .u32 q)
  have c5 : w.cell? ⟨b, 5, none⟩ = some (.int .u32 room) := by rw [cell_of h.hb]; rfl
  have f5 := frozen_of h.hb 5
  have d0 : (w.setCell ⟨b, 5, none⟩ (.int .u32 q)).cell? ⟨b, 0, none⟩ = some (.slice (some ⟨Y, 0, none⟩) L cap) := by rw [cell_of hc1, hL, hcap]; rfl
  have d5 : (w.setCell ⟨b, 5, none⟩ (.int .u32 q)).cell? ⟨b, 5, none⟩ = some (.int .u32 q) := by rw [cell_of hc1]; rfl
  have hF : Fr (fun k => k = b ∨ k = Y) w (w.setCell ⟨b, 5, none⟩ (.int .u32 q)) := (Fr.refl _ w).setCell (fun _ => .inl rfl) _
  have HF := Lib.hid hF
  have hq2 := hq.symm
  clear h hc1 hlim hr hL hcap hF hq
  go_enter Tryz.func109, Tryz.ntmps109
  go_wp2_with fail
  clear hq2
  generalize w.setCell ⟨b, 5, none⟩ (.int .u32 q) = w1 at *
  refine wp_region_held_drew (S := fun w' => w'.cell? ⟨b, 0, none⟩ = some (.slice (some ⟨Y, 0, none⟩) L cap) ∧ w'.cell? ⟨b, 5, none⟩ = some (.int .u32 q) ∧ ∃ k, w' = w1.drewN k) (by kernel_rfl) ⟨d0, d5, 1, rfl⟩ (fun hHeld => ?_)
  refine wpAnyH_take (i := 0) (v := .pointer (some ⟨b, 0, none⟩)) rfl (by kernel_rfl) (by kernel_rfl) (by kernel_rfl) (fun _ _ _ h => h) (Or.inl ⟨by rfl, ?_⟩) (by assumption) ?_
  · rintro _ ⟨h0, h5, n, rfl⟩; go_simp
  simp only [Act.put, List.setIfInBounds_toArray, List.set_cons_zero, List.set_cons_succ]
  refine wpAnyH_take (i := 1) (v := .pointer (some ⟨b, 0, none⟩)) rfl (by kernel_rfl) (by kernel_rfl) (by kernel_rfl) (fun _ _ _ h => h) (Or.inl ⟨by rfl, ?_⟩) (by assumption) ?_
  · rintro _ ⟨h0, h5, n, rfl⟩; go_simp
  simp only [Act.put, List.setIfInBounds_toArray, List.set_cons_zero, List.set_cons_succ]
  refine wpAnyH_take (i := 2) (v := .pointer (some ⟨b, 0, none⟩)) rfl (by kernel_rfl) (by kernel_rfl) (by kernel_rfl) (fun _ _ _ h => h) (Or.inl ⟨by rfl, ?_⟩) (by assumption) ?_
  · rintro _ ⟨h0, h5, n, rfl⟩; go_simp
  simp only [Act.put, List.setIfInBounds_toArray, List.set_cons_zero, List.set_cons_succ]
  refine wpAnyH_take (i := 3) (v := .slice (some ⟨Y, 0, none⟩) L cap) rfl (by kernel_rfl) (by kernel_rfl) (by kernel_rfl) (fun _ _ _ h => h) (Or.inl ⟨by rfl, ?_⟩) (by assumption) ?_
  · rintro _ ⟨h0, h5, n, rfl⟩; go_simp
  simp only [Act.put, List.setIfInBounds_toArray, List.set_cons_zero, List.set_cons_succ]
  refine wpAnyH_take (i := 4) (v := .pointer (some ⟨b, 0, none⟩)) rfl (by kernel_rfl) (by kernel_rfl) (by kernel_rfl) (fun _ _ _ h => h) (Or.inl ⟨by rfl, ?_⟩) (by assumption) ?_
  · rintro _ ⟨h0, h5, n, rfl⟩; go_simp
  simp only [Act.put, List.setIfInBounds_toArray, List.set_cons_zero, List.set_cons_succ]
  refine wpAnyH_take (i := 5) (v := .pointer (some ⟨b, 0, none⟩)) rfl (by kernel_rfl) (by kernel_rfl) (by kernel_rfl) (fun _ _ _ h => h) (Or.inl ⟨by rfl, ?_⟩) (by assumption) ?_
  · rintro _ ⟨h0, h5, n, rfl⟩; go_simp
  simp only [Act.put, List.setIfInBounds_toArray, List.set_cons_zero, List.set_cons_succ]
  refine wpAnyH_take (i := 6) (v := .pointer (some ⟨b, 5, none⟩)) rfl (by kernel_rfl) (by kernel_rfl) (by kernel_rfl) (fun _ _ _ h => h) (Or.inl ⟨by rfl, ?_⟩) (by assumption) ?_
  · rintro _ ⟨h0, h5, n, rfl⟩; go_simp
  simp only [Act.put, List.setIfInBounds_toArray, List.set_cons_zero, List.set_cons_succ]
  refine wpAnyH_take (i := 7) (v := .int .u32 q) rfl (by kernel_rfl) (by kernel_rfl) (by kernel_rfl) (fun _ _ _ h => h) (Or.inl ⟨by rfl, ?_⟩) (by assumption) ?_
  · rintro _ ⟨h0, h5, n, rfl⟩; go_simp
  simp only [Act.put, List.setIfInBounds_toArray, List.set_cons_zero, List.set_cons_succ]
  refine wpAnyH_take (i := 9) (v := .int .i8 x) rfl (by kernel_rfl) (by kernel_rfl) (by kernel_rfl) (fun _ _ _ h => h) (Or.inl ⟨by rfl, ?_⟩) (by assumption) ?_
  · rintro _ ⟨h0, h5, n, rfl⟩; go_simp
  simp only [Act.put, List.setIfInBounds_toArray, List.set_cons_zero, List.set_cons_succ]
  refine wpAnyH_ready (rs := [8]) (by kernel_rfl) (by simp) ?_
  refine AllReadyH.cons rfl (fun K hK => ?_) AllReadyH.nil
  go_simp
  exact ⟨rfl, ⟨_, _, rfl⟩, HF.out.drewN _⟩

set_option maxHeartbeats 2000000 in
theorem PlaceUint16_dies (b Y : Nat) (r : BRest) (room least : Nat) (bytes : List UInt8) (c : Array Value) (x : Int) (w : World) (h : BB w b Y r room least bytes c) (hr : room < 2) :
    Calls Tryz.prog 110 #[.pointer (some ⟨b, 0, none⟩), .int .u16 x] w (Falls2 (fun k => k = b ∨ k = Y) w) := by
  have hlim := h.lim
  obtain ⟨q, hq⟩ : ∃ q : Int, q = (((room : Nat) : Int) - 2) % 4294967296 := ⟨_, rfl⟩
  obtain ⟨L, hL⟩ : ∃ L, L = room + bytes.length := ⟨_, rfl⟩
  obtain ⟨cap, hcap⟩ : ∃ cap, cap = c.size := ⟨_, rfl⟩
  obtain ⟨fu, fv, fn, hsl⟩ := run_slice_from_out' (P := Tryz.prog) 49 (some ⟨Y, 0, none⟩) L cap .u32 q Tryz.underlying49 (.inr (by omega))
  have hc1 := heap_setCell_same h.hb 5 (.int .u32 q)
  have c5 : w.cell? ⟨b, 5, none⟩ = some (.int .u32 room) := by rw [cell_of h.hb]; rfl
  have f5 := frozen_of h.hb 5
  have d0 : (w.setCell ⟨b, 5, none⟩ (.int .u32 q)).cell? ⟨b, 0, none⟩ = some (.slice (some ⟨Y, 0, none⟩) L cap) := by rw [cell_of hc1, hL, hcap]; rfl
  have d5 : (w.setCell ⟨b, 5, none⟩ (.int .u32 q)).cell? ⟨b, 5, none⟩ = some (.int .u32 q) := by rw [cell_of hc1]; rfl
  have hF : Fr (fun k => k = b ∨ k = Y) w (w.setCell ⟨b, 5, none⟩ (.int .u32 q)) := (Fr.refl _ w).setCell (fun _ => .inl rfl) _
  have HF := Lib.hid hF
  have hq2 := hq.symm
  clear h hc1 hlim hr hL hcap hF hq
  go_enter Tryz.func110, Tryz.ntmps110
  go_wp2_with fail
  clear hq2
  generalize w.setCell ⟨b, 5, none⟩ (.int .u32 q) = w1 at *
  refine wp_region_held_drew (S := fun w' => w'.cell? ⟨b, 0, none⟩ = some (.slice (some ⟨Y, 0, none⟩) L cap) ∧ w'.cell? ⟨b, 5, none⟩ = some (.int .u32 q) ∧ ∃ k, w' = w1.drewN k) (by kernel_rfl) ⟨d0, d5, 1, rfl⟩ (fun hHeld => ?_)
  refine wpAnyH_take (i := 0) (v := .pointer (some ⟨b, 0, none⟩)) rfl (by kernel_rfl) (by kernel_rfl) (by kernel_rfl) (fun _ _ _ h => h) (Or.inl ⟨by rfl, ?_⟩) (by assumption) ?_
  · rintro _ ⟨h0, h5, n, rfl⟩; go_simp
  simp only [Act.put, List.setIfInBounds_toArray, List.set_cons_zero, List.set_cons_succ]
  refine wpAnyH_take (i := 1) (v := .pointer (some ⟨b, 0, none⟩)) rfl (by kernel_rfl) (by kernel_rfl) (by kernel_rfl) (fun _ _ _ h => h) (Or.inl ⟨by rfl, ?_⟩) (by assumption) ?_
  · rintro _ ⟨h0, h5, n, rfl⟩; go_simp
  simp only [Act.put, List.setIfInBounds_toArray, List.set_cons_zero, List.set_cons_succ]
  refine wpAnyH_take (i := 2) (v := .pointer (some ⟨b, 0, none⟩)) rfl (by kernel_rfl) (by kernel_rfl) (by kernel_rfl) (fun _ _ _ h => h) (Or.inl ⟨by rfl, ?_⟩) (by assumption) ?_
  · rintro _ ⟨h0, h5, n, rfl⟩; go_simp
  simp only [Act.put, List.setIfInBounds_toArray, List.set_cons_zero, List.set_cons_succ]
  refine wpAnyH_take (i := 3) (v := .slice (some ⟨Y, 0, none⟩) L cap) rfl (by kernel_rfl) (by kernel_rfl) (by kernel_rfl) (fun _ _ _ h => h) (Or.inl ⟨by rfl, ?_⟩) (by assumption) ?_
  · rintro _ ⟨h0, h5, n, rfl⟩; go_simp
  simp only [Act.put, List.setIfInBounds_toArray, List.set_cons_zero, List.set_cons_succ]
  refine wpAnyH_take (i := 4) (v := .pointer (some ⟨b, 0, none⟩)) rfl (by kernel_rfl) (by kernel_rfl) (by kernel_rfl) (fun _ _ _ h => h) (Or.inl ⟨by rfl, ?_⟩) (by assumption) ?_
  · rintro _ ⟨h0, h5, n, rfl⟩; go_simp
  simp only [Act.put, List.setIfInBounds_toArray, List.set_cons_zero, List.set_cons_succ]
  refine wpAnyH_take (i := 5) (v := .pointer (some ⟨b, 0, none⟩)) rfl (by kernel_rfl) (by kernel_rfl) (by kernel_rfl) (fun _ _ _ h => h) (Or.inl ⟨by rfl, ?_⟩) (by assumption) ?_
  · rintro _ ⟨h0, h5, n, rfl⟩; go_simp
  simp only [Act.put, List.setIfInBounds_toArray, List.set_cons_zero, List.set_cons_succ]
  refine wpAnyH_take (i := 6) (v := .pointer (some ⟨b, 5, none⟩)) rfl (by kernel_rfl) (by kernel_rfl) (by kernel_rfl) (fun _ _ _ h => h) (Or.inl ⟨by rfl, ?_⟩) (by assumption) ?_
  · rintro _ ⟨h0, h5, n, rfl⟩; go_simp
  simp only [Act.put, List.setIfInBounds_toArray, List.set_cons_zero, List.set_cons_succ]
  refine wpAnyH_take (i := 7) (v := .int .u32 q) rfl (by kernel_rfl) (by kernel_rfl) (by kernel_rfl) (fun _ _ _ h => h) (Or.inl ⟨by rfl, ?_⟩) (by assumption) ?_
  · rintro _ ⟨h0, h5, n, rfl⟩; go_simp
  simp only [Act.put, List.setIfInBounds_toArray, List.set_cons_zero, List.set_cons_succ]
  refine wpAnyH_take (i := 9) (v := .int .u16 x) rfl (by kernel_rfl) (by kernel_rfl) (by kernel_rfl) (fun _ _ _ h => h) (Or.inl ⟨by rfl, ?_⟩) (by assumption) ?_
  · rintro _ ⟨h0, h5, n, rfl⟩; go_simp
  simp only [Act.put, List.setIfInBounds_toArray, List.set_cons_zero, List.set_cons_succ]
  refine wpAnyH_ready (rs := [8]) (by kernel_rfl) (by simp) ?_
  refine AllReadyH.cons rfl (fun K hK => ?_) AllReadyH.nil
  go_simp
  exact ⟨rfl, ⟨_, _, rfl⟩, HF.out.drewN _⟩

set_option maxHeartbeats 2000000 in
theorem PlaceInt16_dies (b Y : Nat) (r : BRest) (room least : Nat) (bytes : List UInt8) (c : Array Value) (x : Int) (w : World) (h : BB w b Y r room least bytes c) (hr : room < 2) :
    Calls Tryz.prog 111 #[.pointer (some ⟨b, 0, none⟩), .int .i16 x] w (Falls2 (fun k => k = b ∨ k = Y) w) := by
  have hlim := h.lim
  obtain ⟨q, hq⟩ : ∃ q : Int, q = (((room : Nat) : Int) - 2) % 4294967296 := ⟨_, rfl⟩
  obtain ⟨L, hL⟩ : ∃ L, L = room + bytes.length := ⟨_, rfl⟩
  obtain ⟨cap, hcap⟩ : ∃ cap, cap = c.size := ⟨_, rfl⟩
  obtain ⟨fu, fv, fn, hsl⟩ := run_slice_from_out' (P := Tryz.prog) 49 (some ⟨Y, 0, none⟩) L cap .u32 q Tryz.underlying49 (.inr (by omega))
  have hc1 := heap_setCell_same h.hb 5 (.int .u32 q)
  have c5 : w.cell? ⟨b, 5, none⟩ = some (.int .u32 room) := by rw [cell_of h.hb]; rfl
  have f5 := frozen_of h.hb 5
  have d0 : (w.setCell ⟨b, 5, none⟩ (.int .u32 q)).cell? ⟨b, 0, none⟩ = some (.slice (some ⟨Y, 0, none⟩) L cap) := by rw [cell_of hc1, hL, hcap]; rfl
  have d5 : (w.setCell ⟨b, 5, none⟩ (.int .u32 q)).cell? ⟨b, 5, none⟩ = some (.int .u32 q) := by rw [cell_of hc1]; rfl
  have hF : Fr (fun k => k = b ∨ k = Y) w (w.setCell ⟨b, 5, none⟩ (.int .u32 q)) := (Fr.refl _ w).setCell (fun _ => .inl rfl) _
  have HF := Lib.hid hF
  have hq2 := hq.symm
  clear h hc1 hlim hr hL hcap hF hq
  go_enter Tryz.func111, Tryz.ntmps111
  go_wp2_with fail
  clear hq2
  generalize w.setCell ⟨b, 5, none⟩ (.int .u32 q) = w1 at *
  refine wp_region_held_drew (S := fun w' => w'.cell? ⟨b, 0, none⟩ = some (.slice (some ⟨Y, 0, none⟩) L cap) ∧ w'.cell? ⟨b, 5, none⟩ = some (.int .u32 q) ∧ ∃ k, w' = w1.drewN k) (by kernel_rfl) ⟨d0, d5, 1, rfl⟩ (fun hHeld => ?_)
  refine wpAnyH_take (i := 0) (v := .pointer (some ⟨b, 0, none⟩)) rfl (by kernel_rfl) (by kernel_rfl) (by kernel_rfl) (fun _ _ _ h => h) (Or.inl ⟨by rfl, ?_⟩) (by assumption) ?_
  · rintro _ ⟨h0, h5, n, rfl⟩; go_simp
  simp only [Act.put, List.setIfInBounds_toArray, List.set_cons_zero, List.set_cons_succ]
  refine wpAnyH_take (i := 1) (v := .pointer (some ⟨b, 0, none⟩)) rfl (by kernel_rfl) (by kernel_rfl) (by kernel_rfl) (fun _ _ _ h => h) (Or.inl ⟨by rfl, ?_⟩) (by assumption) ?_
  · rintro _ ⟨h0, h5, n, rfl⟩; go_simp
  simp only [Act.put, List.setIfInBounds_toArray, List.set_cons_zero, List.set_cons_succ]
  refine wpAnyH_take (i := 2) (v := .pointer (some ⟨b, 0, none⟩)) rfl (by kernel_rfl) (by kernel_rfl) (by kernel_rfl) (fun _ _ _ h => h) (Or.inl ⟨by rfl, ?_⟩) (by assumption) ?_
  · rintro _ ⟨h0, h5, n, rfl⟩; go_simp
  simp only [Act.put, List.setIfInBounds_toArray, List.set_cons_zero, List.set_cons_succ]
  refine wpAnyH_take (i := 3) (v := .slice (some ⟨Y, 0, none⟩) L cap) rfl (by kernel_rfl) (by kernel_rfl) (by kernel_rfl) (fun _ _ _ h => h) (Or.inl ⟨by rfl, ?_⟩) (by assumption) ?_
  · rintro _ ⟨h0, h5, n, rfl⟩; go_simp
  simp only [Act.put, List.setIfInBounds_toArray, List.set_cons_zero, List.set_cons_succ]
  refine wpAnyH_take (i := 4) (v := .pointer (some ⟨b, 0, none⟩)) rfl (by kernel_rfl) (by kernel_rfl) (by kernel_rfl) (fun _ _ _ h => h) (Or.inl ⟨by rfl, ?_⟩) (by assumption) ?_
  · rintro _ ⟨h0, h5, n, rfl⟩; go_simp
  simp only [Act.put, List.setIfInBounds_toArray, List.set_cons_zero, List.set_cons_succ]
  refine wpAnyH_take (i := 5) (v := .pointer (some ⟨b, 0, none⟩)) rfl (by kernel_rfl) (by kernel_rfl) (by kernel_rfl) (fun _ _ _ h => h) (Or.inl ⟨by rfl, ?_⟩) (by assumption) ?_
  · rintro _ ⟨h0, h5, n, rfl⟩; go_simp
  simp only [Act.put, List.setIfInBounds_toArray, List.set_cons_zero, List.set_cons_succ]
  refine wpAnyH_take (i := 6) (v := .pointer (some ⟨b, 5, none⟩)) rfl (by kernel_rfl) (by kernel_rfl) (by kernel_rfl) (fun _ _ _ h => h) (Or.inl ⟨by rfl, ?_⟩) (by assumption) ?_
  · rintro _ ⟨h0, h5, n, rfl⟩; go_simp
  simp only [Act.put, List.setIfInBounds_toArray, List.set_cons_zero, List.set_cons_succ]
  refine wpAnyH_take (i := 7) (v := .int .u32 q) rfl (by kernel_rfl) (by kernel_rfl) (by kernel_rfl) (fun _ _ _ h => h) (Or.inl ⟨by rfl, ?_⟩) (by assumption) ?_
  · rintro _ ⟨h0, h5, n, rfl⟩; go_simp
  simp only [Act.put, List.setIfInBounds_toArray, List.set_cons_zero, List.set_cons_succ]
  refine wpAnyH_take (i := 9) (v := .int .i16 x) rfl (by kernel_rfl) (by kernel_rfl) (by kernel_rfl) (fun _ _ _ h => h) (Or.inl ⟨by rfl, ?_⟩) (by assumption) ?_
  · rintro _ ⟨h0, h5, n, rfl⟩; go_simp
  simp only [Act.put, List.setIfInBounds_toArray, List.set_cons_zero, List.set_cons_succ]
  refine wpAnyH_ready (rs := [8]) (by kernel_rfl) (by simp) ?_
  refine AllReadyH.cons rfl (fun K hK => ?_) AllReadyH.nil
  go_simp
  exact ⟨rfl, ⟨_, _, rfl⟩, HF.out.drewN _⟩

set_option maxHeartbeats 2000000 in
theorem PlaceUint32_dies (b Y : Nat) (r : BRest) (room least : Nat) (bytes : List UInt8) (c : Array Value) (x : Int) (w : World) (h : BB w b Y r room least bytes c) (hr : room < 4) :
    Calls Tryz.prog 112 #[.pointer (some ⟨b, 0, none⟩), .int .u32 x] w (Falls2 (fun k => k = b ∨ k = Y) w) := by
  have hlim := h.lim
  obtain ⟨q, hq⟩ : ∃ q : Int, q = (((room : Nat) : Int) - 4) % 4294967296 := ⟨_, rfl⟩
  obtain ⟨L, hL⟩ : ∃ L, L = room + bytes.length := ⟨_, rfl⟩
  obtain ⟨cap, hcap⟩ : ∃ cap, cap = c.size := ⟨_, rfl⟩
  obtain ⟨fu, fv, fn, hsl⟩ := run_slice_from_out' (P := Tryz.prog) 49 (some ⟨Y, 0, none⟩) L cap .u32 q Tryz.underlying49 (.inr (by omega))
  have hc1 := heap_setCell_same h.hb 5 (.int .u32 q)
  have c5 : w.cell? ⟨b, 5, none⟩ = some (.int .u32 room) := by rw [cell_of h.hb]; rfl
  have f5 := frozen_of h.hb 5
  have d0 : (w.setCell ⟨b, 5, none⟩ (.int .u32 q)).cell? ⟨b, 0, none⟩ = some (.slice (some ⟨Y, 0, none⟩) L cap) := by rw [cell_of hc1, hL, hcap]; rfl
  have d5 : (w.setCell ⟨b, 5, none⟩ (.int .u32 q)).cell? ⟨b, 5, none⟩ = some (.int .u32 q) := by rw [cell_of hc1]; rfl
  have hF : Fr (fun k => k = b ∨ k = Y) w (w.setCell ⟨b, 5, none⟩ (.int .u32 q)) := (Fr.refl _ w).setCell (fun _ => .inl rfl) _
  have HF := Lib.hid hF
  have hq2 := hq.symm
  clear h hc1 hlim hr hL hcap hF hq
  go_enter Tryz.func112, Tryz.ntmps112
  go_wp2_with fail
  clear hq2
  generalize w.setCell ⟨b, 5, none⟩ (.int .u32 q) = w1 at *
  refine wp_region_held_drew (S := fun w' => w'.cell? ⟨b, 0, none⟩ = some (.slice (some ⟨Y, 0, none⟩) L cap) ∧ w'.cell? ⟨b, 5, none⟩ = some (.int .u32 q) ∧ ∃ k, w' = w1.drewN k) (by kernel_rfl) ⟨d0, d5, 1, rfl⟩ (fun hHeld => ?_)
  refine wpAnyH_take (i := 0) (v := .pointer (some ⟨b, 0, none⟩)) rfl (by kernel_rfl) (by kernel_rfl) (by kernel_rfl) (fun _ _ _ h => h) (Or.inl ⟨by rfl, ?_⟩) (by assumption) ?_
  · rintro _ ⟨h0, h5, n, rfl⟩; go_simp
  simp only [Act.put, List.setIfInBounds_toArray, List.set_cons_zero, List.set_cons_succ]
  refine wpAnyH_take (i := 1) (v := .pointer (some ⟨b, 0, none⟩)) rfl (by kernel_rfl) (by kernel_rfl) (by kernel_rfl) (fun _ _ _ h => h) (Or.inl ⟨by rfl, ?_⟩) (by assumption) ?_
  · rintro _ ⟨h0, h5, n, rfl⟩; go_simp
  simp only [Act.put, List.setIfInBounds_toArray, List.set_cons_zero, List.set_cons_succ]
  refine wpAnyH_take (i := 2) (v := .pointer (some ⟨b, 0, none⟩)) rfl (by kernel_rfl) (by kernel_rfl) (by kernel_rfl) (fun _ _ _ h => h) (Or.inl ⟨by rfl, ?_⟩) (by assumption) ?_
  · rintro _ ⟨h0, h5, n, rfl⟩; go_simp
  simp only [Act.put, List.setIfInBounds_toArray, List.set_cons_zero, List.set_cons_succ]
  refine wpAnyH_take (i := 3) (v := .slice (some ⟨Y, 0, none⟩) L cap) rfl (by kernel_rfl) (by kernel_rfl) (by kernel_rfl) (fun _ _ _ h => h) (Or.inl ⟨by rfl, ?_⟩) (by assumption) ?_
  · rintro _ ⟨h0, h5, n, rfl⟩; go_simp
  simp only [Act.put, List.setIfInBounds_toArray, List.set_cons_zero, List.set_cons_succ]
  refine wpAnyH_take (i := 4) (v := .pointer (some ⟨b, 0, none⟩)) rfl (by kernel_rfl) (by kernel_rfl) (by kernel_rfl) (fun _ _ _ h => h) (Or.inl ⟨by rfl, ?_⟩) (by assumption) ?_
  · rintro _ ⟨h0, h5, n, rfl⟩; go_simp
  simp only [Act.put, List.setIfInBounds_toArray, List.set_cons_zero, List.set_cons_succ]
  refine wpAnyH_take (i := 5) (v := .pointer (some ⟨b, 0, none⟩)) rfl (by kernel_rfl) (by kernel_rfl) (by kernel_rfl) (fun _ _ _ h => h) (Or.inl ⟨by rfl, ?_⟩) (by assumption) ?_
  · rintro _ ⟨h0, h5, n, rfl⟩; go_simp
  simp only [Act.put, List.setIfInBounds_toArray, List.set_cons_zero, List.set_cons_succ]
  refine wpAnyH_take (i := 6) (v := .pointer (some ⟨b, 5, none⟩)) rfl (by kernel_rfl) (by kernel_rfl) (by kernel_rfl) (fun _ _ _ h => h) (Or.inl ⟨by rfl, ?_⟩) (by assumption) ?_
  · rintro _ ⟨h0, h5, n, rfl⟩; go_simp
  simp only [Act.put, List.setIfInBounds_toArray, List.set_cons_zero, List.set_cons_succ]
  refine wpAnyH_take (i := 7) (v := .int .u32 q) rfl (by kernel_rfl) (by kernel_rfl) (by kernel_rfl) (fun _ _ _ h => h) (Or.inl ⟨by rfl, ?_⟩) (by assumption) ?_
  · rintro _ ⟨h0, h5, n, rfl⟩; go_simp
  simp only [Act.put, List.setIfInBounds_toArray, List.set_cons_zero, List.set_cons_succ]
  refine wpAnyH_take (i := 9) (v := .int .u32 x) rfl (by kernel_rfl) (by kernel_rfl) (by kernel_rfl) (fun _ _ _ h => h) (Or.inl ⟨by rfl, ?_⟩) (by assumption) ?_
  · rintro _ ⟨h0, h5, n, rfl⟩; go_simp
  simp only [Act.put, List.setIfInBounds_toArray, List.set_cons_zero, List.set_cons_succ]
  refine wpAnyH_ready (rs := [8]) (by kernel_rfl) (by simp) ?_
  refine AllReadyH.cons rfl (fun K hK => ?_) AllReadyH.nil
  go_simp
  exact ⟨rfl, ⟨_, _, rfl⟩, HF.out.drewN _⟩

set_option maxHeartbeats 2000000 in
theorem PlaceInt32_dies (b Y : Nat) (r : BRest) (room least : Nat) (bytes : List UInt8) (c : Array Value) (x : Int) (w : World) (h : BB w b Y r room least bytes c) (hr : room < 4) :
    Calls Tryz.prog 113 #[.pointer (some ⟨b, 0, none⟩), .int .i32 x] w (Falls2 (fun k => k = b ∨ k = Y) w) := by
  have hlim := h.lim
  obtain ⟨q, hq⟩ : ∃ q : Int, q = (((room : Nat) : Int) - 4) % 4294967296 := ⟨_, rfl⟩
  obtain ⟨L, hL⟩ : ∃ L, L = room + bytes.length := ⟨_, rfl⟩
  obtain ⟨cap, hcap⟩ : ∃ cap, cap = c.size := ⟨_, rfl⟩
  obtain ⟨fu, fv, fn, hsl⟩ := run_slice_from_out' (P := Tryz.prog) 49 (some ⟨Y, 0, none⟩) L cap .u32 q Tryz.underlying49 (.inr (by omega))
  have hc1 := heap_setCell_same h.hb 5 (.int .u32 q)
  have c5 : w.cell? ⟨b, 5, none⟩ = some (.int .u32 room) := by rw [cell_of h.hb]; rfl
  have f5 := frozen_of h.hb 5
  have d0 : (w.setCell ⟨b, 5, none⟩ (.int .u32 q)).cell? ⟨b, 0, none⟩ = some (.slice (some ⟨Y, 0, none⟩) L cap) := by rw [cell_of hc1, hL, hcap]; rfl
  have d5 : (w.setCell ⟨b, 5, none⟩ (.int .u32 q)).cell? ⟨b, 5, none⟩ = some (.int .u32 q) := by rw [cell_of hc1]; rfl
  have hF : Fr (fun k => k = b ∨ k = Y) w (w.setCell ⟨b, 5, none⟩ (.int .u32 q)) := (Fr.refl _ w).setCell (fun _ => .inl rfl) _
  have HF := Lib.hid hF
  have hq2 := hq.symm
  clear h hc1 hlim hr hL hcap hF hq
  go_enter Tryz.func113, Tryz.ntmps113
  go_wp2_with fail
  clear hq2
  generalize w.setCell ⟨b, 5, none⟩ (.int .u32 q) = w1 at *
  refine wp_region_held_drew (S := fun w' => w'.cell? ⟨b, 0, none⟩ = some (.slice (some ⟨Y, 0, none⟩) L cap) ∧ w'.cell? ⟨b, 5, none⟩ = some (.int .u32 q) ∧ ∃ k, w' = w1.drewN k) (by kernel_rfl) ⟨d0, d5, 1, rfl⟩ (fun hHeld => ?_)
  refine wpAnyH_take (i := 0) (v := .pointer (some ⟨b, 0, none⟩)) rfl (by kernel_rfl) (by kernel_rfl) (by kernel_rfl) (fun _ _ _ h => h) (Or.inl ⟨by rfl, ?_⟩) (by assumption) ?_
  · rintro _ ⟨h0, h5, n, rfl⟩; go_simp
  simp only [Act.put, List.setIfInBounds_toArray, List.set_cons_zero, List.set_cons_succ]
  refine wpAnyH_take (i := 1) (v := .pointer (some ⟨b, 0, none⟩)) rfl (by kernel_rfl) (by kernel_rfl) (by kernel_rfl) (fun _ _ _ h => h) (Or.inl ⟨by rfl, ?_⟩) (by assumption) ?_
  · rintro _ ⟨h0, h5, n, rfl⟩; go_simp
  simp only [Act.put, List.setIfInBounds_toArray, List.set_cons_zero, List.set_cons_succ]
  refine wpAnyH_take (i := 2) (v := .pointer (some ⟨b, 0, none⟩)) rfl (by kernel_rfl) (by kernel_rfl) (by kernel_rfl) (fun _ _ _ h => h) (Or.inl ⟨by rfl, ?_⟩) (by assumption) ?_
  · rintro _ ⟨h0, h5, n, rfl⟩; go_simp
  simp only [Act.put, List.setIfInBounds_toArray, List.set_cons_zero, List.set_cons_succ]
  refine wpAnyH_take (i := 3) (v := .slice (some ⟨Y, 0, none⟩) L cap) rfl (by kernel_rfl) (by kernel_rfl) (by kernel_rfl) (fun _ _ _ h => h) (Or.inl ⟨by rfl, ?_⟩) (by assumption) ?_
  · rintro _ ⟨h0, h5, n, rfl⟩; go_simp
  simp only [Act.put, List.setIfInBounds_toArray, List.set_cons_zero, List.set_cons_succ]
  refine wpAnyH_take (i := 4) (v := .pointer (some ⟨b, 0, none⟩)) rfl (by kernel_rfl) (by kernel_rfl) (by kernel_rfl) (fun _ _ _ h => h) (Or.inl ⟨by rfl, ?_⟩) (by assumption) ?_
  · rintro _ ⟨h0, h5, n, rfl⟩; go_simp
  simp only [Act.put, List.setIfInBounds_toArray, List.set_cons_zero, List.set_cons_succ]
  refine wpAnyH_take (i := 5) (v := .pointer (some ⟨b, 0, none⟩)) rfl (by kernel_rfl) (by kernel_rfl) (by kernel_rfl) (fun _ _ _ h => h) (Or.inl ⟨by rfl, ?_⟩) (by assumption) ?_
  · rintro _ ⟨h0, h5, n, rfl⟩; go_simp
  simp only [Act.put, List.setIfInBounds_toArray, List.set_cons_zero, List.set_cons_succ]
  refine wpAnyH_take (i := 6) (v := .pointer (some ⟨b, 5, none⟩)) rfl (by kernel_rfl) (by kernel_rfl) (by kernel_rfl) (fun _ _ _ h => h) (Or.inl ⟨by rfl, ?_⟩) (by assumption) ?_
  · rintro _ ⟨h0, h5, n, rfl⟩; go_simp
  simp only [Act.put, List.setIfInBounds_toArray, List.set_cons_zero, List.set_cons_succ]
  refine wpAnyH_take (i := 7) (v := .int .u32 q) rfl (by kernel_rfl) (by kernel_rfl) (by kernel_rfl) (fun _ _ _ h => h) (Or.inl ⟨by rfl, ?_⟩) (by assumption) ?_
  · rintro _ ⟨h0, h5, n, rfl⟩; go_simp
  simp only [Act.put, List.setIfInBounds_toArray, List.set_cons_zero, List.set_cons_succ]
  refine wpAnyH_take (i := 9) (v := .int .i32 x) rfl (by kernel_rfl) (by kernel_rfl) (by kernel_rfl) (fun _ _ _ h => h) (Or.inl ⟨by rfl, ?_⟩) (by assumption) ?_
  · rintro _ ⟨h0, h5, n, rfl⟩; go_simp
  simp only [Act.put, List.setIfInBounds_toArray, List.set_cons_zero, List.set_cons_succ]
  refine wpAnyH_ready (rs := [8]) (by kernel_rfl) (by simp) ?_
  refine AllReadyH.cons rfl (fun K hK => ?_) AllReadyH.nil
  go_simp
  exact ⟨rfl, ⟨_, _, rfl⟩, HF.out.drewN _⟩

set_option maxHeartbeats 2000000 in
theorem PlaceUOffsetT_dies (b Y : Nat) (r : BRest) (room least : Nat) (bytes : List UInt8) (c : Array Value) (x : Int) (w : World) (h : BB w b Y r room least bytes c) (hr : room < 4) :
    Calls Tryz.prog 102 #[.pointer (some ⟨b, 0, none⟩), .int .u32 x] w (Falls2 (fun k => k = b ∨ k = Y) w) := by
  have hlim := h.lim
  obtain ⟨q, hq⟩ : ∃ q : Int, q = (((room : Nat) : Int) - 4) % 4294967296 := ⟨_, rfl⟩
  obtain ⟨L, hL⟩ : ∃ L, L = room + bytes.length := ⟨_, rfl⟩
  obtain ⟨cap, hcap⟩ : ∃ cap, cap = c.size := ⟨_, rfl⟩
  obtain ⟨fu, fv, fn, hsl⟩ := run_slice_from_out' (P := Tryz.prog) 49 (some ⟨Y, 0, none⟩) L cap .u32 q Tryz.underlying49 (.inr (by omega))
  have hc1 := heap_setCell_same h.hb 5 (.int .u32 q)
  have c5 : w.cell? ⟨b, 5, none⟩ = some (.int .u32 room) := by rw [cell_of h.hb]; rfl
  have f5 := frozen_of h.hb 5
  have d0 : (w.setCell ⟨b, 5, none⟩ (.int .u32 q)).cell? ⟨b, 0, none⟩ = some (.slice (some ⟨Y, 0, none⟩) L cap) := by rw [cell_of hc1, hL, hcap]; rfl
  have d5 : (w.setCell ⟨b, 5, none⟩ (.int .u32 q)).cell? ⟨b, 5, none⟩ = some (.int .u32 q) := by rw [cell_of hc1]; rfl
  have hF : Fr (fun k => k = b ∨ k = Y) w (w.setCell ⟨b, 5, none⟩ (.int .u32 q)) := (Fr.refl _ w).setCell (fun _ => .inl rfl) _
  have HF := Lib.hid hF
  have hq2 := hq.symm
  clear h hc1 hlim hr hL hcap hF hq
  go_enter Tryz.func102, Tryz.ntmps102
  go_wp2_with fail
  clear hq2
  generalize w.setCell ⟨b, 5, none⟩ (.int .u32 q) = w1 at *
  refine wp_region_held_drew (S := fun w' => w'.cell? ⟨b, 0, none⟩ = some (.slice (some ⟨Y, 0, none⟩) L cap) ∧ w'.cell? ⟨b, 5, none⟩ = some (.int .u32 q) ∧ ∃ k, w' = w1.drewN k) (by kernel_rfl) ⟨d0, d5, 1, rfl⟩ (fun hHeld => ?_)
  refine wpAnyH_take (i := 0) (v := .pointer (some ⟨b, 0, none⟩)) rfl (by kernel_rfl) (by kernel_rfl) (by kernel_rfl) (fun _ _ _ h => h) (Or.inl ⟨by rfl, ?_⟩) (by assumption) ?_
  · rintro _ ⟨h0, h5, n, rfl⟩; go_simp
  simp only [Act.put, List.setIfInBounds_toArray, List.set_cons_zero, List.set_cons_succ]
  refine wpAnyH_take (i := 1) (v := .pointer (some ⟨b, 0, none⟩)) rfl (by kernel_rfl) (by kernel_rfl) (by kernel_rfl) (fun _ _ _ h => h) (Or.inl ⟨by rfl, ?_⟩) (by assumption) ?_
  · rintro _ ⟨h0, h5, n, rfl⟩; go_simp
  simp only [Act.put, List.setIfInBounds_toArray, List.set_cons_zero, List.set_cons_succ]
  refine wpAnyH_take (i := 2) (v := .pointer (some ⟨b, 0, none⟩)) rfl (by kernel_rfl) (by kernel_rfl) (by kernel_rfl) (fun _ _ _ h => h) (Or.inl ⟨by rfl, ?_⟩) (by assumption) ?_
  · rintro _ ⟨h0, h5, n, rfl⟩; go_simp
  simp only [Act.put, List.setIfInBounds_toArray, List.set_cons_zero, List.set_cons_succ]
  refine wpAnyH_take (i := 3) (v := .slice (some ⟨Y, 0, none⟩) L cap) rfl (by kernel_rfl) (by kernel_rfl) (by kernel_rfl) (fun _ _ _ h => h) (Or.inl ⟨by rfl, ?_⟩) (by assumption) ?_
  · rintro _ ⟨h0, h5, n, rfl⟩; go_simp
  simp only [Act.put, List.setIfInBounds_toArray, List.set_cons_zero, List.set_cons_succ]
  refine wpAnyH_take (i := 4) (v := .pointer (some ⟨b, 0, none⟩)) rfl (by kernel_rfl) (by kernel_rfl) (by kernel_rfl) (fun _ _ _ h => h) (Or.inl ⟨by rfl, ?_⟩) (by assumption) ?_
  · rintro _ ⟨h0, h5, n, rfl⟩; go_simp
  simp only [Act.put, List.setIfInBounds_toArray, List.set_cons_zero, List.set_cons_succ]
  refine wpAnyH_take (i := 5) (v := .pointer (some ⟨b, 0, none⟩)) rfl (by kernel_rfl) (by kernel_rfl) (by kernel_rfl) (fun _ _ _ h => h) (Or.inl ⟨by rfl, ?_⟩) (by assumption) ?_
  · rintro _ ⟨h0, h5, n, rfl⟩; go_simp
  simp only [Act.put, List.setIfInBounds_toArray, List.set_cons_zero, List.set_cons_succ]
  refine wpAnyH_take (i := 6) (v := .pointer (some ⟨b, 5, none⟩)) rfl (by kernel_rfl) (by kernel_rfl) (by kernel_rfl) (fun _ _ _ h => h) (Or.inl ⟨by rfl, ?_⟩) (by assumption) ?_
  · rintro _ ⟨h0, h5, n, rfl⟩; go_simp
  simp only [Act.put, List.setIfInBounds_toArray, List.set_cons_zero, List.set_cons_succ]
  refine wpAnyH_take (i := 7) (v := .int .u32 q) rfl (by kernel_rfl) (by kernel_rfl) (by kernel_rfl) (fun _ _ _ h => h) (Or.inl ⟨by rfl, ?_⟩) (by assumption) ?_
  · rintro _ ⟨h0, h5, n, rfl⟩; go_simp
  simp only [Act.put, List.setIfInBounds_toArray, List.set_cons_zero, List.set_cons_succ]
  refine wpAnyH_take (i := 9) (v := .int .u32 x) rfl (by kernel_rfl) (by kernel_rfl) (by kernel_rfl) (fun _ _ _ h => h) (Or.inl ⟨by rfl, ?_⟩) (by assumption) ?_
  · rintro _ ⟨h0, h5, n, rfl⟩; go_simp
  simp only [Act.put, List.setIfInBounds_toArray, List.set_cons_zero, List.set_cons_succ]
  refine wpAnyH_ready (rs := [8]) (by kernel_rfl) (by simp) ?_
  refine AllReadyH.cons rfl (fun K hK => ?_) AllReadyH.nil
  go_simp
  exact ⟨rfl, ⟨_, _, rfl⟩, HF.out.drewN _⟩

set_option maxHeartbeats 2000000 in
theorem PlaceUint64_dies (b Y : Nat) (r : BRest) (room least : Nat) (bytes : List UInt8) (c : Array Value) (x : Int) (w : World) (h : BB w b Y r room least bytes c) (hr : room < 8) :
    Calls Tryz.prog 114 #[.pointer (some ⟨b, 0, none⟩), .int .u64 x] w (Falls2 (fun k => k = b ∨ k = Y) w) := by
  have hlim := h.lim
  obtain ⟨q, hq⟩ : ∃ q : Int, q = (((room : Nat) : Int) - 8) % 4294967296 := ⟨_, rfl⟩
  obtain ⟨L, hL⟩ : ∃ L, L = room + bytes.length := ⟨_, rfl⟩
  obtain ⟨cap, hcap⟩ : ∃ cap, cap = c.size := ⟨_, rfl⟩
  obtain ⟨fu, fv, fn, hsl⟩ := run_slice_from_out' (P := Tryz.prog) 49 (some ⟨Y, 0, none⟩) L cap .u32 q Tryz.underlying49 (.inr (by omega))
  have hc1 := heap_setCell_same h.hb 5 (.int .u32 q)
  have c5 : w.cell? ⟨b, 5, none⟩ = some (.int .u32 room) := by rw [cell_of h.hb]; rfl
  have f5 := frozen_of h.hb 5
  have d0 : (w.setCell ⟨b, 5, none⟩ (.int .u32 q)).cell? ⟨b, 0, none⟩ = some (.slice (some ⟨Y, 0, none⟩) L cap) := by rw [cell_of hc1, hL, hcap]; rfl
  have d5 : (w.setCell ⟨b, 5, none⟩ (.int .u32 q)).cell? ⟨b, 5, none⟩ = some (.int .u32 q) := by rw [cell_of hc1]; rfl
  have hF : Fr (fun k => k = b ∨ k = Y) w (w.setCell ⟨b, 5, none⟩ (.int .u32 q)) := (Fr.refl _ w).setCell (fun _ => .inl rfl) _
  have HF := Lib.hid hF
  have hq2 := hq.symm
  clear h hc1 hlim hr hL hcap hF hq
  go_enter Tryz.func114, Tryz.ntmps114
  go_wp2_with fail
  clear hq2
  generalize w.setCell ⟨b, 5, none⟩ (.int .u32 q) = w1 at *
  refine wp_region_held_drew (S := fun w' => w'.cell? ⟨b, 0, none⟩ = some (.slice (some ⟨Y, 0, none⟩) L cap) ∧ w'.cell? ⟨b, 5, none⟩ = some (.int .u32 q) ∧ ∃ k, w' = w1.drewN k) (by kernel_rfl) ⟨d0, d5, 1, rfl⟩ (fun hHeld => ?_)
  refine wpAnyH_take (i := 0) (v := .pointer (some ⟨b, 0, none⟩)) rfl (by kernel_rfl) (by kernel_rfl) (by kernel_rfl) (fun _ _ _ h => h) (Or.inl ⟨by rfl, ?_⟩) (by assumption) ?_
  · rintro _ ⟨h0, h5, n, rfl⟩; go_simp
  simp only [Act.put, List.setIfInBounds_toArray, List.set_cons_zero, List.set_cons_succ]
  refine wpAnyH_take (i := 1) (v := .pointer (some ⟨b, 0, none⟩)) rfl (by kernel_rfl) (by kernel_rfl) (by kernel_rfl) (fun _ _ _ h => h) (Or.inl ⟨by rfl, ?_⟩) (by assumption) ?_
  · rintro _ ⟨h0, h5, n, rfl⟩; go_simp
  simp only [Act.put, List.setIfInBounds_toArray, List.set_cons_zero, List.set_cons_succ]
  refine wpAnyH_take (i := 2) (v := .pointer (some ⟨b, 0, none⟩)) rfl (by kernel_rfl) (by kernel_rfl) (by kernel_rfl) (fun _ _ _ h => h) (Or.inl ⟨by rfl, ?_⟩) (by assumption) ?_
  · rintro _ ⟨h0, h5, n, rfl⟩; go_simp
  simp only [Act.put, List.setIfInBounds_toArray, List.set_cons_zero, List.set_cons_succ]
  refine wpAnyH_take (i := 3) (v := .slice (some ⟨Y, 0, none⟩) L cap) rfl (by kernel_rfl) (by kernel_rfl) (by kernel_rfl) (fun _ _ _ h => h) (Or.inl ⟨by rfl, ?_⟩) (by assumption) ?_
  · rintro _ ⟨h0, h5, n, rfl⟩; go_simp
  simp only [Act.put, List.setIfInBounds_toArray, List.set_cons_zero, List.set_cons_succ]
  refine wpAnyH_take (i := 4) (v := .pointer (some ⟨b, 0, none⟩)) rfl (by kernel_rfl) (by kernel_rfl) (by kernel_rfl) (fun _ _ _ h => h) (Or.inl ⟨by rfl, ?_⟩) (by assumption) ?_
  · rintro _ ⟨h0, h5, n, rfl⟩; go_simp
  simp only [Act.put, List.setIfInBounds_toArray, List.set_cons_zero, List.set_cons_succ]
  refine wpAnyH_take (i := 5) (v := .pointer (some ⟨b, 0, none⟩)) rfl (by kernel_rfl) (by kernel_rfl) (by kernel_rfl) (fun _ _ _ h => h) (Or.inl ⟨by rfl, ?_⟩) (by assumption) ?_
  · rintro _ ⟨h0, h5, n, rfl⟩; go_simp
  simp only [Act.put, List.setIfInBounds_toArray, List.set_cons_zero, List.set_cons_succ]
  refine wpAnyH_take (i := 6) (v := .pointer (some ⟨b, 5, none⟩)) rfl (by kernel_rfl) (by kernel_rfl) (by kernel_rfl) (fun _ _ _ h => h) (Or.inl ⟨by rfl, ?_⟩) (by assumption) ?_
  · rintro _ ⟨h0, h5, n, rfl⟩; go_simp
  simp only [Act.put, List.setIfInBounds_toArray, List.set_cons_zero, List.set_cons_succ]
  refine wpAnyH_take (i := 7) (v := .int .u32 q) rfl (by kernel_rfl) (by kernel_rfl) (by kernel_rfl) (fun _ _ _ h => h) (Or.inl ⟨by rfl, ?_⟩) (by assumption) ?_
  · rintro _ ⟨h0, h5, n, rfl⟩; go_simp
  simp only [Act.put, List.setIfInBounds_toArray, List.set_cons_zero, List.set_cons_succ]
  refine wpAnyH_take (i := 9) (v := .int .u64 x) rfl (by kernel_rfl) (by kernel_rfl) (by kernel_rfl) (fun _ _ _ h => h) (Or.inl ⟨by rfl, ?_⟩) (by assumption) ?_
  · rintro _ ⟨h0, h5, n, rfl⟩; go_simp
  simp only [Act.put, List.setIfInBounds_toArray, List.set_cons_zero, List.set_cons_succ]
  refine wpAnyH_ready (rs := [8]) (by kernel_rfl) (by simp) ?_
  refine AllReadyH.cons rfl (fun K hK => ?_) AllReadyH.nil
  go_simp
  exact ⟨rfl, ⟨_, _, rfl⟩, HF.out.drewN _⟩

set_option maxHeartbeats 2000000 in
theorem PlaceInt64_dies (b Y : Nat) (r : BRest) (room least : Nat) (bytes : List UInt8) (c : Array Value) (x : Int) (w : World) (h : BB w b Y r room least bytes c) (hr : room < 8) :
    Calls Tryz.prog 115 #[.pointer (some ⟨b, 0, none⟩), .int .i64 x] w (Falls2 (fun k => k = b ∨ k = Y) w) := by
  have hlim := h.lim
  obtain ⟨q, hq⟩ : ∃ q : Int, q = (((room : Nat) : Int) - 8) % 4294967296 := ⟨_, rfl⟩
  obtain ⟨L, hL⟩ : ∃ L, L = room + bytes.length := ⟨_, rfl⟩
  obtain ⟨cap, hcap⟩ : ∃ cap, cap = c.size := ⟨_, rfl⟩
  obtain ⟨fu, fv, fn, hsl⟩ := run_slice_from_out' (P := Tryz.prog) 49 (some ⟨Y, 0, none⟩) L cap .u32 q Tryz.underlying49 (.inr (by omega))
  have hc1 := heap_setCell_same h.hb 5 (.int .u32 q)
  have c5 : w.cell? ⟨b, 5, none⟩ = some (.int .u32 room) := by rw [cell_of h.hb]; rfl
  have f5 := frozen_of h.hb 5
  have d0 : (w.setCell ⟨b, 5, none⟩ (.int .u32 q)).cell? ⟨b, 0, none⟩ = some (.slice (some ⟨Y, 0, none⟩) L cap) := by rw [cell_of hc1, hL, hcap]; rfl
  have d5 : (w.setCell ⟨b, 5, none⟩ (.int .u32 q)).cell? ⟨b, 5, none⟩ = some (.int .u32 q) := by rw [cell_of hc1]; rfl
  have hF : Fr (fun k => k = b ∨ k = Y) w (w.setCell ⟨b, 5, none⟩ (.int .u32 q)) := (Fr.refl _ w).setCell (fun _ => .inl rfl) _
  have HF := Lib.hid hF
  have hq2 := hq.symm
  clear h hc1 hlim hr hL hcap hF hq
  go_enter Tryz.func115, Tryz.ntmps115
  go_wp2_with fail
  clear hq2
  generalize w.setCell ⟨b, 5, none⟩ (.int .u32 q) = w1 at *
  refine wp_region_held_drew (S := fun w' => w'.cell? ⟨b, 0, none⟩ = some (.slice (some ⟨Y, 0, none⟩) L cap) ∧ w'.cell? ⟨b, 5, none⟩ = some (.int .u32 q) ∧ ∃ k, w' = w1.drewN k) (by kernel_rfl) ⟨d0, d5, 1, rfl⟩ (fun hHeld => ?_)
  refine wpAnyH_take (i := 0) (v := .pointer (some ⟨b, 0, none⟩)) rfl (by kernel_rfl) (by kernel_rfl) (by kernel_rfl) (fun _ _ _ h => h) (Or.inl ⟨by rfl, ?_⟩) (by assumption) ?_
  · rintro _ ⟨h0, h5, n, rfl⟩; go_simp
  simp only [Act.put, List.setIfInBounds_toArray, List.set_cons_zero, List.set_cons_succ]
  refine wpAnyH_take (i := 1) (v := .pointer (some ⟨b, 0, none⟩)) rfl (by kernel_rfl) (by kernel_rfl) (by kernel_rfl) (fun _ _ _ h => h) (Or.inl ⟨by rfl, ?_⟩) (by assumption) ?_
  · rintro _ ⟨h0, h5, n, rfl⟩; go_simp
  simp only [Act.put, List.setIfInBounds_toArray, List.set_cons_zero, List.set_cons_succ]
  refine wpAnyH_take (i := 2) (v := .pointer (some ⟨b, 0, none⟩)) rfl (by kernel_rfl) (by kernel_rfl) (by kernel_rfl) (fun _ _ _ h => h) (Or.inl ⟨by rfl, ?_⟩) (by assumption) ?_
  · rintro _ ⟨h0, h5, n, rfl⟩; go_simp
  simp only [Act.put, List.setIfInBounds_toArray, List.set_cons_zero, List.set_cons_succ]
  refine wpAnyH_take (i := 3) (v := .slice (some ⟨Y, 0, none⟩) L cap) rfl (by kernel_rfl) (by kernel_rfl) (by kernel_rfl) (fun _ _ _ h => h) (Or.inl ⟨by rfl, ?_⟩) (by assumption) ?_
  · rintro _ ⟨h0, h5, n, rfl⟩; go_simp
  simp only [Act.put, List.setIfInBounds_toArray, List.set_cons_zero, List.set_cons_succ]
  refine wpAnyH_take (i := 4) (v := .pointer (some ⟨b, 0, none⟩)) rfl (by kernel_rfl) (by kernel_rfl) (by kernel_rfl) (fun _ _ _ h => h) (Or.inl ⟨by rfl, ?_⟩) (by assumption) ?_
  · rintro _ ⟨h0, h5, n, rfl⟩; go_simp
  simp only [Act.put, List.setIfInBounds_toArray, List.set_cons_zero, List.set_cons_succ]
  refine wpAnyH_take (i := 5) (v := .pointer (some ⟨b, 0, none⟩)) rfl (by kernel_rfl) (by kernel_rfl) (by kernel_rfl) (fun _ _ _ h => h) (Or.inl ⟨by rfl, ?_⟩) (by assumption) ?_
  · rintro _ ⟨h0, h5, n, rfl⟩; go_simp
  simp only [Act.put, List.setIfInBounds_toArray, List.set_cons_zero, List.set_cons_succ]
  refine wpAnyH_take (i := 6) (v := .pointer (some ⟨b, 5, none⟩)) rfl (by kernel_rfl) (by kernel_rfl) (by kernel_rfl) (fun _ _ _ h => h) (Or.inl ⟨by rfl, ?_⟩) (by assumption) ?_
  · rintro _ ⟨h0, h5, n, rfl⟩; go_simp
  simp only [Act.put, List.setIfInBounds_toArray, List.set_cons_zero, List.set_cons_succ]
  refine wpAnyH_take (i := 7) (v := .int .u32 q) rfl (by kernel_rfl) (by kernel_rfl) (by kernel_rfl) (fun _ _ _ h => h) (Or.inl ⟨by rfl, ?_⟩) (by assumption) ?_
  · rintro _ ⟨h0, h5, n, rfl⟩; go_simp
  simp only [Act.put, List.setIfInBounds_toArray, List.set_cons_zero, List.set_cons_succ]
  refine wpAnyH_take (i := 9) (v := .int .i64 x) rfl (by kernel_rfl) (by kernel_rfl) (by kernel_rfl) (fun _ _ _ h => h) (Or.inl ⟨by rfl, ?_⟩) (by assumption) ?_
  · rintro _ ⟨h0, h5, n, rfl⟩; go_simp
  simp only [Act.put, List.setIfInBounds_toArray, List.set_cons_zero, List.set_cons_succ]
  refine wpAnyH_ready (rs := [8]) (by kernel_rfl) (by simp) ?_
  refine AllReadyH.cons rfl (fun K hK => ?_) AllReadyH.nil
  go_simp
  exact ⟨rfl, ⟨_, _, rfl⟩, HF.out.drewN _⟩

set_option maxHeartbeats 2000000 in
theorem PlaceFloat32_dies (b Y : Nat) (r : BRest) (room least : Nat) (bytes : List UInt8) (c : Array Value) (x : Nat) (w : World) (h : BB w b Y r room least bytes c) (hr : room < 4) :
    Calls Tryz.prog 116 #[.pointer (some ⟨b, 0, none⟩), .float .f32 x] w (Falls2 (fun k => k = b ∨ k = Y) w) := by
  have hlim := h.lim
  obtain ⟨q, hq⟩ : ∃ q : Int, q = (((room : Nat) : Int) - 4) % 4294967296 := ⟨_, rfl⟩
  obtain ⟨L, hL⟩ : ∃ L, L = room + bytes.length := ⟨_, rfl⟩
  obtain ⟨cap, hcap⟩ : ∃ cap, cap = c.size := ⟨_, rfl⟩
  obtain ⟨fu, fv, fn, hsl⟩ := run_slice_from_out' (P := Tryz.prog) 49 (some ⟨Y, 0, none⟩) L cap .u32 q Tryz.underlying49 (.inr (by omega))
  have hc1 := heap_setCell_same h.hb 5 (.int .u32 q)
  have c5 : w.cell? ⟨b, 5, none⟩ = some (.int .u32 room) := by rw [cell_of h.hb]; rfl
  have f5 := frozen_of h.hb 5
  have d0 : (w.setCell ⟨b, 5, none⟩ (.int .u32 q)).cell? ⟨b, 0, none⟩ = some (.slice (some ⟨Y, 0, none⟩) L cap) := by rw [cell_of hc1, hL, hcap]; rfl
  have d5 : (w.setCell ⟨b, 5, none⟩ (.int .u32 q)).cell? ⟨b, 5, none⟩ = some (.int .u32 q) := by rw [cell_of hc1]; rfl
  have hF : Fr (fun k => k = b ∨ k = Y) w (w.setCell ⟨b, 5, none⟩ (.int .u32 q)) := (Fr.refl _ w).setCell (fun _ => .inl rfl) _
  have HF := Lib.hid hF
  have hq2 := hq.symm
  clear h hc1 hlim hr hL hcap hF hq
  go_enter Tryz.func116, Tryz.ntmps116
  go_wp2_with fail
  clear hq2
  generalize w.setCell ⟨b, 5, none⟩ (.int .u32 q) = w1 at *
  refine wp_region_held_drew (S := fun w' => w'.cell? ⟨b, 0, none⟩ = some (.slice (some ⟨Y, 0, none⟩) L cap) ∧ w'.cell? ⟨b, 5, none⟩ = some (.int .u32 q) ∧ ∃ k, w' = w1.drewN k) (by kernel_rfl) ⟨d0, d5, 1, rfl⟩ (fun hHeld => ?_)
  refine wpAnyH_take (i := 0) (v := .pointer (some ⟨b, 0, none⟩)) rfl (by kernel_rfl) (by kernel_rfl) (by kernel_rfl) (fun _ _ _ h => h) (Or.inl ⟨by rfl, ?_⟩) (by assumption) ?_
  · rintro _ ⟨h0, h5, n, rfl⟩; go_simp
  simp only [Act.put, List.setIfInBounds_toArray, List.set_cons_zero, List.set_cons_succ]
  refine wpAnyH_take (i := 1) (v := .pointer (some ⟨b, 0, none⟩)) rfl (by kernel_rfl) (by kernel_rfl) (by kernel_rfl) (fun _ _ _ h => h) (Or.inl ⟨by rfl, ?_⟩) (by assumption) ?_
  · rintro _ ⟨h0, h5, n, rfl⟩; go_simp
  simp only [Act.put, List.setIfInBounds_toArray, List.set_cons_zero, List.set_cons_succ]
  refine wpAnyH_take (i := 2) (v := .pointer (some ⟨b, 0, none⟩)) rfl (by kernel_rfl) (by kernel_rfl) (by kernel_rfl) (fun _ _ _ h => h) (Or.inl ⟨by rfl, ?_⟩) (by assumption) ?_
  · rintro _ ⟨h0, h5, n, rfl⟩; go_simp
  simp only [Act.put, List.setIfInBounds_toArray, List.set_cons_zero, List.set_cons_succ]
  refine wpAnyH_take (i := 3) (v := .slice (some ⟨Y, 0, none⟩) L cap) rfl (by kernel_rfl) (by kernel_rfl) (by kernel_rfl) (fun _ _ _ h => h) (Or.inl ⟨by rfl, ?_⟩) (by assumption) ?_
  · rintro _ ⟨h0, h5, n, rfl⟩; go_simp
  simp only [Act.put, List.setIfInBounds_toArray, List.set_cons_zero, List.set_cons_succ]
  refine wpAnyH_take (i := 4) (v := .pointer (some ⟨b, 0, none⟩)) rfl (by kernel_rfl) (by kernel_rfl) (by kernel_rfl) (fun _ _ _ h => h) (Or.inl ⟨by rfl, ?_⟩) (by assumption) ?_
  · rintro _ ⟨h0, h5, n, rfl⟩; go_simp
  simp only [Act.put, List.setIfInBounds_toArray, List.set_cons_zero, List.set_cons_succ]
  refine wpAnyH_take (i := 5) (v := .pointer (some ⟨b, 0, none⟩)) rfl (by kernel_rfl) (by kernel_rfl) (by kernel_rfl) (fun _ _ _ h => h) (Or.inl ⟨by rfl, ?_⟩) (by assumption) ?_
  · rintro _ ⟨h0, h5, n, rfl⟩; go_simp
  simp only [Act.put, List.setIfInBounds_toArray, List.set_cons_zero, List.set_cons_succ]
  refine wpAnyH_take (i := 6) (v := .pointer (some ⟨b, 5, none⟩)) rfl (by kernel_rfl) (by kernel_rfl) (by kernel_rfl) (fun _ _ _ h => h) (Or.inl ⟨by rfl, ?_⟩) (by assumption) ?_
  · rintro _ ⟨h0, h5, n, rfl⟩; go_simp
  simp only [Act.put, List.setIfInBounds_toArray, List.set_cons_zero, List.set_cons_succ]
  refine wpAnyH_take (i := 7) (v := .int .u32 q) rfl (by kernel_rfl) (by kernel_rfl) (by kernel_rfl) (fun _ _ _ h => h) (Or.inl ⟨by rfl, ?_⟩) (by assumption) ?_
  · rintro _ ⟨h0, h5, n, rfl⟩; go_simp
  simp only [Act.put, List.setIfInBounds_toArray, List.set_cons_zero, List.set_cons_succ]
  refine wpAnyH_take (i := 9) (v := .float .f32 x) rfl (by kernel_rfl) (by kernel_rfl) (by kernel_rfl) (fun _ _ _ h => h) (Or.inl ⟨by rfl, ?_⟩) (by assumption) ?_
  · rintro _ ⟨h0, h5, n, rfl⟩; go_simp
  simp only [Act.put, List.setIfInBounds_toArray, List.set_cons_zero, List.set_cons_succ]
  refine wpAnyH_ready (rs := [8]) (by kernel_rfl) (by simp) ?_
  refine AllReadyH.cons rfl (fun K hK => ?_) AllReadyH.nil
  go_simp
  exact ⟨rfl, ⟨_, _, rfl⟩, HF.out.drewN _⟩

set_option maxHeartbeats 2000000 in
theorem PlaceFloat64_dies (b Y : Nat) (r : BRest) (room least : Nat) (bytes : List UInt8) (c : Array Value) (x : Nat) (w : World) (h : BB w b Y r room least bytes c) (hr : room < 8) :
    Calls Tryz.prog 117 #[.pointer (some ⟨b, 0, none⟩), .float .f64 x] w (Falls2 (fun k => k = b ∨ k = Y) w) := by
  have hlim := h.lim
  obtain ⟨q, hq⟩ : ∃ q : Int, q = (((room : Nat) : Int) - 8) % 4294967296 := ⟨_, rfl⟩
  obtain ⟨L, hL⟩ : ∃ L, L = room + bytes.length := ⟨_, rfl⟩
  obtain ⟨cap, hcap⟩ : ∃ cap, cap = c.size := ⟨_, rfl⟩
  obtain ⟨fu, fv, fn, hsl⟩ := run_slice_from_out' (P := Tryz.prog) 49 (some ⟨Y, 0, none⟩) L cap .u32 q Tryz.underlying49 (.inr (by omega))
  have hc1 := heap_setCell_same h.hb 5 (.int .u32 q)
  have c5 : w.cell? ⟨b, 5, none⟩ = some (.int .u32 room) := by rw [cell_of h.hb]; rfl
  have f5 := frozen_of h.hb 5
  have d0 : (w.setCell ⟨b, 5, none⟩ (.int .u32 q)).cell? ⟨b, 0, none⟩ = some (.slice (some ⟨Y, 0, none⟩) L cap) := by rw [cell_of hc1, hL, hcap]; rfl
  have d5 : (w.setCell ⟨b, 5, none⟩ (.int .u32 q)).cell? ⟨b, 5, none⟩ = some (.int .u32 q) := by rw [cell_of hc1]; rfl
  have hF : Fr (fun k => k = b ∨ k = Y) w (w.setCell ⟨b, 5, none⟩ (.int .u32 q)) := (Fr.refl _ w).setCell (fun _ => .inl rfl) _
  have HF := Lib.hid hF
  have hq2 := hq.symm
  clear h hc1 hlim hr hL hcap hF hq
  go_enter Tryz.func117, Tryz.ntmps117
  go_wp2_with fail
  clear hq2
  generalize w.setCell ⟨b, 5, none⟩ (.int .u32 q) = w1 at *
  refine wp_region_held_drew (S := fun w' => w'.cell? ⟨b, 0, none⟩ = some (.slice (some ⟨Y, 0, none⟩) L cap) ∧ w'.cell? ⟨b, 5, none⟩ = some (.int .u32 q) ∧ ∃ k, w' = w1.drewN k) (by kernel_rfl) ⟨d0, d5, 1, rfl⟩ (fun hHeld => ?_)
  refine wpAnyH_take (i := 0) (v := .pointer (some ⟨b, 0, none⟩)) rfl (by kernel_rfl) (by kernel_rfl) (by kernel_rfl) (fun _ _ _ h => h) (Or.inl ⟨by rfl, ?_⟩) (by assumption) ?_
  · rintro _ ⟨h0, h5, n, rfl⟩; go_simp
  simp only [Act.put, List.setIfInBounds_toArray, List.set_cons_zero, List.set_cons_succ]
  refine wpAnyH_take (i := 1) (v := .pointer (some ⟨b, 0, none⟩)) rfl (by kernel_rfl) (by kernel_rfl) (by kernel_rfl) (fun _ _ _ h => h) (Or.inl ⟨by rfl, ?_⟩) (by assumption) ?_
  · rintro _ ⟨h0, h5, n, rfl⟩; go_simp
  simp only [Act.put, List.setIfInBounds_toArray, List.set_cons_zero, List.set_cons_succ]
  refine wpAnyH_take (i := 2) (v := .pointer (some ⟨b, 0, none⟩)) rfl (by kernel_rfl) (by kernel_rfl) (by kernel_rfl) (fun _ _ _ h => h) (Or.inl ⟨by rfl, ?_⟩) (by assumption) ?_
  · rintro _ ⟨h0, h5, n, rfl⟩; go_simp
  simp only [Act.put, List.setIfInBounds_toArray, List.set_cons_zero, List.set_cons_succ]
  refine wpAnyH_take (i := 3) (v := .slice (some ⟨Y, 0, none⟩) L cap) rfl (by kernel_rfl) (by kernel_rfl) (by kernel_rfl) (fun _ _ _ h => h) (Or.inl ⟨by rfl, ?_⟩) (by assumption) ?_
  · rintro _ ⟨h0, h5, n, rfl⟩; go_simp
  simp only [Act.put, List.setIfInBounds_toArray, List.set_cons_zero, List.set_cons_succ]
  refine wpAnyH_take (i := 4) (v := .pointer (some ⟨b, 0, none⟩)) rfl (by kernel_rfl) (by kernel_rfl) (by kernel_rfl) (fun _ _ _ h => h) (Or.inl ⟨by rfl, ?_⟩) (by assumption) ?_
  · rintro _ ⟨h0, h5, n, rfl⟩; go_simp
  simp only [Act.put, List.setIfInBounds_toArray, List.set_cons_zero, List.set_cons_succ]
  refine wpAnyH_take (i := 5) (v := .pointer (some ⟨b, 0, none⟩)) rfl (by kernel_rfl) (by kernel_rfl) (by kernel_rfl) (fun _ _ _ h => h) (Or.inl ⟨by rfl, ?_⟩) (by assumption) ?_
  · rintro _ ⟨h0, h5, n, rfl⟩; go_simp
  simp only [Act.put, List.setIfInBounds_toArray, List.set_cons_zero, List.set_cons_succ]
  refine wpAnyH_take (i := 6) (v := .pointer (some ⟨b, 5, none⟩)) rfl (by kernel_rfl) (by kernel_rfl) (by kernel_rfl) (fun _ _ _ h => h) (Or.inl ⟨by rfl, ?_⟩) (by assumption) ?_
  · rintro _ ⟨h0, h5, n, rfl⟩; go_simp
  simp only [Act.put, List.setIfInBounds_toArray, List.set_cons_zero, List.set_cons_succ]
  refine wpAnyH_take (i := 7) (v := .int .u32 q) rfl (by kernel_rfl) (by kernel_rfl) (by kernel_rfl) (fun _ _ _ h => h) (Or.inl ⟨by rfl, ?_⟩) (by assumption) ?_
  · rintro _ ⟨h0, h5, n, rfl⟩; go_simp
  simp only [Act.put, List.setIfInBounds_toArray, List.set_cons_zero, List.set_cons_succ]
  refine wpAnyH_take (i := 9) (v := .float .f64 x) rfl (by kernel_rfl) (by kernel_rfl) (by kernel_rfl) (fun _ _ _ h => h) (Or.inl ⟨by rfl, ?_⟩) (by assumption) ?_
  · rintro _ ⟨h0, h5, n, rfl⟩; go_simp
  simp only [Act.put, List.setIfInBounds_toArray, List.set_cons_zero, List.set_cons_succ]
  refine wpAnyH_ready (rs := [8]) (by kernel_rfl) (by simp) ?_
  refine AllReadyH.cons rfl (fun K hK => ?_) AllReadyH.nil
  go_simp
  exact ⟨rfl, ⟨_, _, rfl⟩, HF.out.drewN _⟩
end Go.Proofs.YtfplgggepoaajaaGreat
