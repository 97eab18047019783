/- A Table in memory, and its Offset: where a field stands by the vtable. -/
import Derived.Test.YtjfgippolckaeaaGreatSliceLaws
import Derived.Test.YtjfgippolckaeaaGreatGet
import Derived.Test.YtjfgippolckaeaaGreatSlice
import Derived.Test.YtjfgippolckaeaaGreatTabM
import Derived.Deep.QuietTactic
import Derived.BigQuiet
import Derived.Deep.RegionHeld3
namespace Go.Proofs.YtjfgippolckaeaaGreat
open Go.RowKit
set_option linter.unusedVariables false
set_option linter.unusedSimpArgs false

/-- A Table at block T over the bytes l, which lie in block B. -/
structure Tab (w : World) (T B : Nat) (l : List UInt8) (pos : Nat) : Prop where
  t : w.cell? ⟨T, 0, none⟩ = some (.slice (some ⟨B, 0, none⟩) l.length l.length)
  p : w.cell? ⟨T, 1, none⟩ = some (.int .u32 pos)
  b : w.heap[B]? = some (.cells (cellsOf l).toArray 5)
  hl : l.length ≤ 1000000000
  hp : pos < 4294967296

theorem Tab.m {w : World} {T B : Nat} {l : List UInt8} {pos : Nat} (h : Tab w T B l pos) : Mem w B 0 l := Mem.of_block h.b
theorem Tab.drewN {w : World} {T B : Nat} {l : List UInt8} {pos : Nat} (h : Tab w T B l pos) (n : Nat) : Tab (w.drewN n) T B l pos := ⟨h.t, h.p, h.b, h.hl, h.hp⟩
theorem Tab.drew {w : World} {T B : Nat} {l : List UInt8} {pos : Nat} (h : Tab w T B l pos) : Tab w.drew T B l pos := ⟨h.t, h.p, h.b, h.hl, h.hp⟩
theorem sizeU8 : (Tryz.prog.info? 5).map (·.size) = some 1 := by kernel_rfl

theorem mGet_some {l : List UInt8} {k : Int} {p n : Nat} (h : mGet l k p = some n) : numSize k ≠ 0 ∧ p + numSize k ≤ l.length ∧ n = le ((l.drop p).take (numSize k)) := by
  unfold mGet at h
  split at h
  · cases h
  · rename_i hn
    refine ⟨fun e => hn (.inl e), by omega, ?_⟩
    injection h with h; exact h.symm
theorem mGet_none {l : List UInt8} {k : Int} {p : Nat} (h : mGet l k p = none) (hk : numSize k ≠ 0) : l.length < p + numSize k := by
  unfold mGet at h
  split at h
  · rename_i hn; exact hn.resolve_left hk
  · cases h
theorem mGet_lt {l : List UInt8} {k : Int} {p n : Nat} (h : mGet l k p = some n) : n < 2 ^ (8 * numSize k) := by
  rw [(mGet_some h).2.2]; exact le_take_lt _ _

/-! GetSOffsetT and GetVOffsetT of a Table. -/
theorem TSOff_ok (T B pos off n : Nat) (l : List UInt8) (w : World) (hT : Tab w T B l pos) (h : mGet l 33 off = some n) :
    Calls Tryz.prog 83 #[.pointer (some ⟨T, 0, none⟩), .int .u32 off] w fun e w' => e = .returned (.int .i32 (IntKind.i32.wrap n)) ∧ w = w' := by
  obtain ⟨_, h2, h3⟩ := mGet_some h
  have hsl := run_slice_from (P := Tryz.prog) Tryz.underlying52 sizeU8 B 0 l.length l.length .u32 off off rfl (by simp [numSize] at h2; omega)
  have HC := Lib.hid (GetSOffsetT_ok B (sOff 0 off l.length) (l.length - off) (l.length - off) (l.drop off) w (hT.m.cut (Nat.le_refl _)) (by rw [List.length_drop]) (by simp [numSize] at h2; omega))
  have ht := hT.t
  have hn : n = le ((l.drop off).take 4) := h3
  rw [← hn] at HC
  clear hT h h2 h3 hn
  go_enter Tryz.func83, Tryz.ntmps83
  go_wp2_with (go_at_call 63; refine HC.out.mono ?_; rintro e w' ⟨rfl, rfl⟩)
  go_ret
  exact ⟨rfl, rfl⟩
theorem TSOff_dies (T B pos off : Nat) (l : List UInt8) (w : World) (hT : Tab w T B l pos) (h : mGet l 33 off = none) :
    Calls Tryz.prog 83 #[.pointer (some ⟨T, 0, none⟩), .int .u32 off] w (Dies w) := by
  have h2 := mGet_none h (by decide)
  have h3 : numSize 33 = 4 := by decide
  have ht := hT.t
  by_cases h1 : off ≤ l.length
  · have hsl := run_slice_from (P := Tryz.prog) Tryz.underlying52 sizeU8 B 0 l.length l.length .u32 off off rfl h1
    have HC := Lib.hid (GetSOffsetT_dies (some ⟨B, sOff 0 off l.length, none⟩) (l.length - off) (l.length - off) w (by simp) (by omega))
    clear hT h h1 h2 h3
    go_enter Tryz.func83, Tryz.ntmps83
    go_wp2_with (go_at_call 63; refine HC.out.mono ?_; rintro e w' ⟨⟨u, v, rfl⟩, n, rfl⟩)
    exact ⟨rfl, ⟨u, v, rfl⟩, n, rfl⟩
  · obtain ⟨u, x, n, hsl⟩ := run_slice_from_out (P := Tryz.prog) Tryz.underlying52 (some ⟨B, 0, none⟩) l.length l.length .u32 off (.inr (by omega)) w
    clear hT h h1 h2 h3
    go_enter Tryz.func83, Tryz.ntmps83
    go_wp2_with fail
    exact ⟨rfl, ⟨u, x, rfl⟩, n, rfl⟩
theorem TVOff_ok (T B pos off n : Nat) (l : List UInt8) (w : World) (hT : Tab w T B l pos) (h : mGet l 35 off = some n) :
    Calls Tryz.prog 84 #[.pointer (some ⟨T, 0, none⟩), .int .u32 off] w fun e w' => e = .returned (.int .u16 n) ∧ w = w' := by
  obtain ⟨_, h2, h3⟩ := mGet_some h
  have hsl := run_slice_from (P := Tryz.prog) Tryz.underlying52 sizeU8 B 0 l.length l.length .u32 off off rfl (by simp [numSize] at h2; omega)
  have HC := Lib.hid (GetVOffsetT_ok B (sOff 0 off l.length) (l.length - off) (l.length - off) (l.drop off) w (hT.m.cut (Nat.le_refl _)) (by rw [List.length_drop]) (by simp [numSize] at h2; omega))
  have ht := hT.t
  have hn : n = le ((l.drop off).take 2) := h3
  rw [← hn] at HC
  clear hT h h2 h3 hn
  go_enter Tryz.func84, Tryz.ntmps84
  go_wp2_with (go_at_call 64; refine HC.out.mono ?_; rintro e w' ⟨rfl, rfl⟩)
  go_ret
  exact ⟨rfl, rfl⟩
theorem TVOff_dies (T B pos off : Nat) (l : List UInt8) (w : World) (hT : Tab w T B l pos) (h : mGet l 35 off = none) :
    Calls Tryz.prog 84 #[.pointer (some ⟨T, 0, none⟩), .int .u32 off] w (Dies w) := by
  have h2 := mGet_none h (by decide)
  have h3 : numSize 35 = 2 := by decide
  have ht := hT.t
  by_cases h1 : off ≤ l.length
  · have hsl := run_slice_from (P := Tryz.prog) Tryz.underlying52 sizeU8 B 0 l.length l.length .u32 off off rfl h1
    have HC := Lib.hid (GetVOffsetT_dies (some ⟨B, sOff 0 off l.length, none⟩) (l.length - off) (l.length - off) w (by simp) (by omega))
    clear hT h h1 h2 h3
    go_enter Tryz.func84, Tryz.ntmps84
    go_wp2_with (go_at_call 64; refine HC.out.mono ?_; rintro e w' ⟨⟨u, v, rfl⟩, n, rfl⟩)
    exact ⟨rfl, ⟨u, v, rfl⟩, n, rfl⟩
  · obtain ⟨u, x, n, hsl⟩ := run_slice_from_out (P := Tryz.prog) Tryz.underlying52 (some ⟨B, 0, none⟩) l.length l.length .u32 off (.inr (by omega)) w
    clear hT h h1 h2 h3
    go_enter Tryz.func84, Tryz.ntmps84
    go_wp2_with fail
    exact ⟨rfl, ⟨u, x, rfl⟩, n, rfl⟩

theorem quiet_same {P : Program} {f : FuncId} {args : Array Value} {w : World} {n : Nat} {v : Value} (h : Calls P f args (w.drewN n) fun e w' => e = .returned v ∧ w.drewN n = w') :
    Calls P f args (w.drewN n) fun e w'' => e = .returned v ∧ ∃ m, w'' = w.drewN m := h.mono fun _ _ h => ⟨h.1, n, h.2.symm⟩

theorem vt_eq (pos back : Nat) (hp : pos < 4294967296) (hb : back < 2 ^ 32) : wrap32 (wrap32 (pos : Int) - wrap32 (back : Int)) % 4294967296 = (mVt pos back : Nat) := by
  rw [← IntWalk.i32_left, ← IntWalk.i32_left, ← IntWalk.i32_left]
  have e1 : (IntKind.i32.wrap (IntKind.i32.wrap (pos : Int) - IntKind.i32.wrap (back : Int))) % 2 ^ 32 = ((pos : Int) - back) % 2 ^ 32 := by
    have a := wrap_emod .i32 (IntKind.i32.wrap (pos : Int) - IntKind.i32.wrap (back : Int))
    have b := wrap_emod .i32 (pos : Int)
    have c := wrap_emod .i32 (back : Int)
    simp only [IntKind.bits] at a b c
    rw [a, Int.sub_emod, b, c, ← Int.sub_emod]
  unfold mVt w32
  split
  · omega
  · omega

theorem mVt_lt (pos back : Nat) (hb : back < 2 ^ 32) : mVt pos back < 4294967296 := by unfold mVt w32; split <;> omega

set_option maxHeartbeats 4000000 in
theorem Offset_ok (T B pos slot o : Nat) (l : List UInt8) (w : World) (hT : Tab w T B l pos) (hs : slot < 65536) (h : mOffset l pos slot = some o) :
    Calls Tryz.prog 36 #[.pointer (some ⟨T, 0, none⟩), .int .u16 slot] w fun e w' => e = .returned (.int .u16 o) ∧ ∃ n, w' = w.drewN n := by
  unfold mOffset at h
  obtain ⟨back, hb, h⟩ := Option.bind_eq_some_iff.1 h
  obtain ⟨size, hz, h⟩ := Option.bind_eq_some_iff.1 h
  have hv := vt_eq pos back hT.hp (mGet_lt hb)
  have HV := Lib.hid hv; clear hv
  have hvl := mVt_lt pos back (mGet_lt hb)
  have HZ := Lib.hid (fun n => TVOff_ok T B pos (mVt pos back) size l (w.drewN n) (hT.drewN n) hz)
  have hp := hT.p
  have hsz := mGet_lt hz
  have hnum : numSize 35 = 2 := by decide
  rw [hnum] at hsz
  by_cases hlt : slot < size
  · rw [if_pos hlt] at h
    have HO := Lib.hid (fun n => TVOff_ok T B pos (w32 (mVt pos back + slot)) o l (w.drewN n) (hT.drewN n) h)
    have hw : (((mVt pos back : Nat) : Int) + slot) % 4294967296 = (w32 (mVt pos back + slot) : Nat) := by unfold w32; omega
    have HW := Lib.hid hw
    have HX := Lib.hid h
    clear hw h hnum
    go_enter Tryz.func36, Tryz.ntmps36
    go_wp2_with fail
    go_quiet ((go_at_call 83; exact quiet_same (TSOff_ok T B pos pos back l _ (hT.drewN _) hb)))
    rw [HV.out]
    have HV2 := HV; clear HV
    generalize mVt pos back = v at *
    go_wp2_with fail
    refine (HZ.out nq).mono ?_
    rintro e w' ⟨rfl, rfl⟩
    go_wp2_with fail
    rw [HW.out]
    refine (HO.out nq).mono ?_
    rintro e w' ⟨rfl, rfl⟩
    go_wp2_with fail
    go_ret
    exact ⟨rfl, nq, rfl⟩
  · rw [if_neg hlt] at h
    injection h with h
    have HX := Lib.hid h
    clear h hnum
    go_enter Tryz.func36, Tryz.ntmps36
    go_wp2_with fail
    go_quiet ((go_at_call 83; exact quiet_same (TSOff_ok T B pos pos back l _ (hT.drewN _) hb)))
    rw [HV.out]
    have HV2 := HV; clear HV
    generalize mVt pos back = v at *
    go_wp2_with fail
    refine (HZ.out nq).mono ?_
    rintro e w' ⟨rfl, rfl⟩
    go_wp2_with fail
    go_ret
    exact ⟨by rw [← HX.out]; rfl, nq, rfl⟩

set_option maxHeartbeats 4000000 in
theorem Offset_dies (T B pos slot : Nat) (l : List UInt8) (w : World) (hT : Tab w T B l pos) (hs : slot < 65536) (h : mOffset l pos slot = none) :
    Calls Tryz.prog 36 #[.pointer (some ⟨T, 0, none⟩), .int .u16 slot] w (Dies w) := by
  have hp := hT.p
  cases hb : mGet l 33 pos with
  | none =>
    have HS := Lib.hid (fun w' h => TSOff_dies T B pos pos l w' h hb)
    clear hb h
    go_enter Tryz.func36, Tryz.ntmps36
    go_wp2_with fail
    refine wp_region_held_drew (S := fun w' => ∃ n, w' = w.drewN n) (by kernel_rfl) ⟨1, rfl⟩ (fun hHeld => ?_)
    refine wpAnyH_take (i := 0) (v := .pointer (some ⟨T, 0, none⟩)) rfl (by kernel_rfl) (by kernel_rfl) (by kernel_rfl) (fun _ _ _ h => h) (Or.inl ⟨by rfl, ?_⟩) (by assumption) ?_
    · rintro _ ⟨n, rfl⟩; go_simp
    simp only [Act.put, List.setIfInBounds_toArray, List.set_cons_zero, List.set_cons_succ]
    refine wpAnyH_take (i := 1) (v := .pointer (some ⟨T, 0, none⟩)) rfl (by kernel_rfl) (by kernel_rfl) (by kernel_rfl) (fun _ _ _ h => h) (Or.inl ⟨by rfl, ?_⟩) (by assumption) ?_
    · rintro _ ⟨n, rfl⟩; go_simp
    simp only [Act.put, List.setIfInBounds_toArray, List.set_cons_zero, List.set_cons_succ]
    refine wpAnyH_take (i := 2) (v := .pointer (some ⟨T, 1, none⟩)) rfl (by kernel_rfl) (by kernel_rfl) (by kernel_rfl) (fun _ _ _ h => h) (Or.inl ⟨by rfl, ?_⟩) (by assumption) ?_
    · rintro _ ⟨n, rfl⟩; go_simp
    simp only [Act.put, List.setIfInBounds_toArray, List.set_cons_zero, List.set_cons_succ]
    refine wpAnyH_take (i := 3) (v := .int .u32 pos) rfl (by kernel_rfl) (by kernel_rfl) (by kernel_rfl) (fun _ _ _ h => h) (Or.inl ⟨by rfl, ?_⟩) (by assumption) ?_
    · rintro _ ⟨n, rfl⟩; go_simp
    simp only [Act.put, List.setIfInBounds_toArray, List.set_cons_zero, List.set_cons_succ]
    refine wpAnyH_take (i := 4) (v := .int .i32 (IntKind.i32.wrap pos)) rfl (by kernel_rfl) (by kernel_rfl) (by kernel_rfl) (fun _ _ _ h => h) (Or.inl ⟨by rfl, ?_⟩) (by assumption) ?_
    · rintro _ ⟨n, rfl⟩; go_simp
    simp only [Act.put, List.setIfInBounds_toArray, List.set_cons_zero, List.set_cons_succ]
    refine wpAnyH_take (i := 5) (v := .pointer (some ⟨T, 0, none⟩)) rfl (by kernel_rfl) (by kernel_rfl) (by kernel_rfl) (fun _ _ _ h => h) (Or.inl ⟨by rfl, ?_⟩) (by assumption) ?_
    · rintro _ ⟨n, rfl⟩; go_simp
    simp only [Act.put, List.setIfInBounds_toArray, List.set_cons_zero, List.set_cons_succ]
    refine wpAnyH_take (i := 6) (v := .pointer (some ⟨T, 0, none⟩)) rfl (by kernel_rfl) (by kernel_rfl) (by kernel_rfl) (fun _ _ _ h => h) (Or.inl ⟨by rfl, ?_⟩) (by assumption) ?_
    · rintro _ ⟨n, rfl⟩; go_simp
    simp only [Act.put, List.setIfInBounds_toArray, List.set_cons_zero, List.set_cons_succ]
    refine wpAnyH_take (i := 7) (v := .pointer (some ⟨T, 0, none⟩)) rfl (by kernel_rfl) (by kernel_rfl) (by kernel_rfl) (fun _ _ _ h => h) (Or.inl ⟨by rfl, ?_⟩) (by assumption) ?_
    · rintro _ ⟨n, rfl⟩; go_simp
    simp only [Act.put, List.setIfInBounds_toArray, List.set_cons_zero, List.set_cons_succ]
    refine wpAnyH_take (i := 8) (v := .pointer (some ⟨T, 1, none⟩)) rfl (by kernel_rfl) (by kernel_rfl) (by kernel_rfl) (fun _ _ _ h => h) (Or.inl ⟨by rfl, ?_⟩) (by assumption) ?_
    · rintro _ ⟨n, rfl⟩; go_simp
    simp only [Act.put, List.setIfInBounds_toArray, List.set_cons_zero, List.set_cons_succ]
    refine wpAnyH_take (i := 9) (v := .int .u32 pos) rfl (by kernel_rfl) (by kernel_rfl) (by kernel_rfl) (fun _ _ _ h => h) (Or.inl ⟨by rfl, ?_⟩) (by assumption) ?_
    · rintro _ ⟨n, rfl⟩; go_simp
    simp only [Act.put, List.setIfInBounds_toArray, List.set_cons_zero, List.set_cons_succ]
    refine wpAnyH_ready (rs := [10]) (by kernel_rfl) (by simp) ?_
    refine AllReadyH.cons rfl (fun K hK => ?_) AllReadyH.nil
    go_simp
    refine (HS.out _ hT.drew).mono ?_
    rintro e w' ⟨⟨u, x, rfl⟩, n, rfl⟩
    exact ⟨rfl, ⟨u, x, rfl⟩, 1 + n, World.drewN_drew _ _⟩
  | some back =>
    unfold mOffset at h
    rw [hb, Option.bind_some] at h
    have hv := vt_eq pos back hT.hp (mGet_lt hb)
    have HV := Lib.hid hv; clear hv
    have hvl := mVt_lt pos back (mGet_lt hb)
    cases hz : mGet l 35 (mVt pos back) with
    | none =>
      have HZ := Lib.hid (fun n => TVOff_dies T B pos (mVt pos back) l (w.drewN n) (hT.drewN n) hz)
      clear hz h
      go_enter Tryz.func36, Tryz.ntmps36
      go_wp2_with fail
      go_quiet ((go_at_call 83; exact quiet_same (TSOff_ok T B pos pos back l _ (hT.drewN _) hb)))
      rw [HV.out]
      have HV2 := HV; clear HV
      generalize mVt pos back = v at *
      go_wp2_with fail
      refine (HZ.out nq).mono ?_
      rintro e w' ⟨⟨u, x, rfl⟩, n, rfl⟩
      exact ⟨rfl, ⟨u, x, rfl⟩, nq + n, World.drewN_drewN _ _ _⟩
    | some size =>
      rw [hz, Option.bind_some] at h
      have hlt : slot < size := by
        by_cases hlt : slot < size
        · exact hlt
        · rw [if_neg hlt] at h; cases h
      rw [if_pos hlt] at h
      have HZ := Lib.hid (fun n => TVOff_ok T B pos (mVt pos back) size l (w.drewN n) (hT.drewN n) hz)
      have hsz := mGet_lt hz
      have hnum : numSize 35 = 2 := by decide
      rw [hnum] at hsz
      have HO := Lib.hid (fun n => TVOff_dies T B pos (w32 (mVt pos back + slot)) l (w.drewN n) (hT.drewN n) h)
      have hw : (((mVt pos back : Nat) : Int) + slot) % 4294967296 = (w32 (mVt pos back + slot) : Nat) := by unfold w32; omega
      have HW := Lib.hid hw
      clear hw h hnum hz
      go_enter Tryz.func36, Tryz.ntmps36
      go_wp2_with fail
      go_quiet ((go_at_call 83; exact quiet_same (TSOff_ok T B pos pos back l _ (hT.drewN _) hb)))
      rw [HV.out]
      have HV2 := HV; clear HV
      generalize mVt pos back = v at *
      go_wp2_with fail
      refine (HZ.out nq).mono ?_
      rintro e w' ⟨rfl, rfl⟩
      go_wp2_with fail
      rw [HW.out]
      refine (HO.out nq).mono ?_
      rintro e w' ⟨⟨u, x, rfl⟩, n, rfl⟩
      exact ⟨rfl, ⟨u, x, rfl⟩, nq + n, World.drewN_drewN _ _ _⟩
end Go.Proofs.YtjfgippolckaeaaGreat
