/- The reference over a table: spec.tableOffset, tableJump, numPut. -/
import Derived.Test.YtjfgippolckaeaaGreatTabOne
import Derived.Test.YtjfgippolckaeaaGreatFnTableText
import Derived.Test.YtjfgippolckaeaaGreatRegInv
namespace Go.Proofs.YtjfgippolckaeaaGreat
open Go.RowKit
set_option linter.unusedVariables false
set_option linter.unusedSimpArgs false

/-- A number and how its reading ends. -/
def tupV (r : Nat × Nat) : Value := .tuple #[.int .u64 r.1, .int .u8 r.2]
theorem numSize_pow (k : Int) : 2 ^ (8 * numSize k) ≤ 2 ^ 64 := Nat.pow_le_pow_right (by decide) (by have := numSize_le k; omega)
theorem numAt_list (l : List UInt8) (k : Int) (p : Nat) (w : World) (hl : l.length ≤ 1000000000) (hp : p < 4294967296) :
    Calls Tryz.prog 11 #[.string (strOf l), .int .u8 k, .int .u32 p] w fun e w' => e = .returned (tupV (numAt l k p)) ∧ w = w' :=
  NumAt_calls (strOf l) k p w (by rw [strOf_size]; exact hl) hp
theorem numAt_lt (l : List UInt8) (k : Int) (p : Nat) : (numAt l k p).1 < 2 ^ (8 * numSize k) := by
  rcases numAt_cases l k p with ⟨_, h⟩ | ⟨n, _, _, _, h⟩ | ⟨n, h1, _, h⟩
  · rw [h]; exact Nat.pow_pos (by decide)
  · rw [h]; exact Nat.pow_pos (by decide)
  · rw [h]; exact mGet_lt h1
theorem mVt_eq (pos back : Nat) (hp : pos < 4294967296) (hb : back < 4294967296) : ((pos : Int) - back) % 4294967296 = (mVt pos back : Nat) := by
  unfold mVt w32; split <;> omega

set_option maxHeartbeats 2000000 in
theorem tableOffset_calls (l : List UInt8) (pos slot : Nat) (w : World) (hl : l.length ≤ 1000000000) (hp : pos < 4294967296) (hs : slot < 65536) :
    Calls Tryz.prog 21 #[.string (strOf l), .int .u32 pos, .int .u16 slot] w fun e w' => e = .returned (tupV (sOffset l pos slot)) ∧ w = w' := by
  have HA := Lib.hid (numAt_list l 33 pos w hl hp)
  rcases numAt_num l 33 pos (by decide) with ⟨_, h2⟩ | ⟨b, h1, h2⟩
  · have hf : sOffset l pos slot = (0, 1) := by simp [sOffset, h2]
    rw [h2] at HA
    rw [hf]
    unfold tupV at *
    go_enter Tryz.func21, Tryz.ntmps21
    go_wp2_with (first | (go_at_call 11; refine HA.out.mono ?_; rintro e w' ⟨rfl, rfl⟩))
    go_ret2
    exact ⟨rfl, rfl⟩
  · have hb := mGet_lt h1
    have hb2 : b < 4294967296 := by simpa [numSize] using hb
    have hv := mVt_eq pos b hp hb2
    have hvl := mVt_lt pos b hb2
    have HB := Lib.hid (numAt_list l 35 (mVt pos b) w hl hvl)
    have hso : sOffset l pos slot = if (numAt l 35 (mVt pos b)).2 ≠ 0 ∨ (numAt l 35 (mVt pos b)).1 ≤ slot then (0, (numAt l 35 (mVt pos b)).2) else numAt l 35 (w32 (mVt pos b + slot)) := by simp [sOffset, h2]
    rw [hso]
    rw [h2] at HA
    have HV := Lib.hid hv
    clear hso hv hb h1 h2
    generalize mVt pos b = v at *
    rcases numAt_num l 35 v (by decide) with ⟨_, h2⟩ | ⟨z, h1, h2⟩
    · rw [h2] at HB ⊢
      have e : (if ((0, 1) : Nat × Nat).2 ≠ 0 ∨ ((0, 1) : Nat × Nat).1 ≤ slot then (0, ((0, 1) : Nat × Nat).2) else numAt l 35 (w32 (v + slot))) = (0, 1) := by simp
      rw [e]
      clear e h2
      unfold tupV at *
      go_enter Tryz.func21, Tryz.ntmps21
      go_wp2_with fail
      refine HA.out.mono ?_
      rintro e w' ⟨rfl, rfl⟩
      go_wp2_with fail
      rw [HV.out]
      refine HB.out.mono ?_
      rintro e w' ⟨rfl, rfl⟩
      go_wp2_with fail
      go_ret2
      exact ⟨rfl, rfl⟩
    · rw [h2] at HB ⊢
      have hz := mGet_lt h1
      have hz2 : z < 65536 := by simpa [numSize] using hz
      clear h1 h2 hz
      by_cases hlt : z ≤ slot
      · have e : (if ((z, 0) : Nat × Nat).2 ≠ 0 ∨ ((z, 0) : Nat × Nat).1 ≤ slot then (0, ((z, 0) : Nat × Nat).2) else numAt l 35 (w32 (v + slot))) = (0, 0) := by simp [hlt]
        rw [e]
        clear e
        unfold tupV at *
        go_enter Tryz.func21, Tryz.ntmps21
        go_wp2_with fail
        refine HA.out.mono ?_
        rintro e w' ⟨rfl, rfl⟩
        go_wp2_with fail
        rw [HV.out]
        refine HB.out.mono ?_
        rintro e w' ⟨rfl, rfl⟩
        go_wp2_with fail
        go_ret2
        exact ⟨rfl, rfl⟩
      · have e : (if ((z, 0) : Nat × Nat).2 ≠ 0 ∨ ((z, 0) : Nat × Nat).1 ≤ slot then (0, ((z, 0) : Nat × Nat).2) else numAt l 35 (w32 (v + slot))) = numAt l 35 (w32 (v + slot)) := by simp [hlt]
        rw [e]
        clear e
        have hw : (((v : Nat) : Int) + slot) % 4294967296 = (w32 (v + slot) : Nat) := by unfold w32; omega
        have HC := Lib.hid (numAt_list l 35 (w32 (v + slot)) w hl (by unfold w32; omega))
        have HW := Lib.hid hw
        clear hw
        generalize w32 (v + slot) = u at *
        generalize numAt l 35 u = r at *
        unfold tupV at *
        go_enter Tryz.func21, Tryz.ntmps21
        go_wp2_with fail
        refine HA.out.mono ?_
        rintro e w' ⟨rfl, rfl⟩
        go_wp2_with fail
        rw [HV.out]
        refine HB.out.mono ?_
        rintro e w' ⟨rfl, rfl⟩
        go_wp2_with fail
        rw [HW.out]
        refine HC.out.mono ?_
        rintro e w' ⟨rfl, rfl⟩
        go_wp2_with fail
        go_ret2
        exact ⟨rfl, rfl⟩

/-- A place and how its reading ends. -/
def tup32V (r : Nat × Nat) : Value := .tuple #[.int .u32 r.1, .int .u8 r.2]
theorem tableJump_calls (l : List UInt8) (p : Nat) (w : World) (hl : l.length ≤ 1000000000) (hp : p < 4294967296) :
    Calls Tryz.prog 24 #[.string (strOf l), .int .u32 p] w fun e w' => e = .returned (tup32V (sJump l p)) ∧ w = w' := by
  have HA := Lib.hid (numAt_list l 34 p w hl hp)
  have hlt := numAt_lt l 34 p
  have hlt2 : (numAt l 34 p).1 < 4294967296 := by simpa [numSize] using hlt
  have hj : sJump l p = (w32 (p + (numAt l 34 p).1), (numAt l 34 p).2) := rfl
  rw [hj]
  clear hj hlt
  generalize numAt l 34 p = r at *
  have hw : ((p : Int) + (r.1 : Nat)) % 4294967296 = (w32 (p + r.1) : Nat) := by unfold w32; omega
  have HW := Lib.hid hw
  clear hw
  unfold tupV tup32V at *
  go_enter Tryz.func24, Tryz.ntmps24
  go_wp2_with fail
  refine HA.out.mono ?_
  rintro e w' ⟨rfl, rfl⟩
  go_wp2_with fail
  go_ret2
  exact ⟨by rw [← HW.out]; rfl, rfl⟩
end Go.Proofs.YtjfgippolckaeaaGreat
