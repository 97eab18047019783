/- The reference: spec.TableDo: the steps 4. -/
import Derived.Test.YtjfgippolckaeaaGreatSpecTab3
namespace Go.Proofs.YtjfgippolckaeaaGreat
open Go.RowKit
set_option linter.unusedVariables false
set_option linter.unusedSimpArgs false

set_option maxRecDepth 20000 in
set_option maxHeartbeats 8000000 in
theorem TableDo_4 (l : List UInt8) (pos off num : Nat) (k : Int) (w : World) (hl : l.length ≤ 1000000000) (hp : pos < 4294967296) (ho : off < 4294967296) (hn : num < 2 ^ 64) :
    Calls Tryz.prog 13 #[.string (strOf l), .int .u32 pos, stepV 4 k off num] w fun e w' => e = .returned (tdV (sStep l pos 4 k off num)) ∧ Fr0 w w' := by
  have HA := Lib.hid (fun w => tableJump_calls l off w hl ho)
  have hs : sStep l pos 4 k off num = sText l off := rfl
  rw [hs]
  clear hs
  rcases sJump_cases l off with ⟨_, n, h⟩ | ⟨n, _, h⟩
  · have hs : sText l off = (⟨0, [], false, true⟩, l, 1) := by simp [sText, h, sEnd]
    rw [hs]
    rw [h] at HA
    clear h hs
    unfold stepV tup32V tdV at *
    go_enter Tryz.func13, Tryz.ntmps13
    go_wp2_with fail
    refine (HA.out _).mono ?_
    rintro e w' ⟨rfl, rfl⟩
    go_wp2_with fail
    exact bodyPost_ret (results_row_tmp2 (P := Tryz.prog) rfl _ _ (w.heap.size + 1) 31 _ (0, 0) _ rfl (two_new w _ _) Tryz.underlying31 rfl infoAnsS) rfl ⟨rfl, ((Fr.refl _ w).alloc _).alloc _⟩
  · have hlt := sJump_lt l off
    rw [h] at hlt
    have hlt2 : n < 4294967296 := hlt
    have HB := Lib.hid (fun w => numAt_list l 34 n w hl hlt2)
    rw [h] at HA
    rcases numAt_num l 34 n (by decide) with ⟨_, h2⟩ | ⟨z, hz, h2⟩
    · have hs : sText l off = (⟨0, [], false, true⟩, l, 1) := by simp [sText, h, h2, sEnd]
      rw [hs]
      rw [h2] at HB
      clear h h2 hs hlt
      unfold stepV tupV tup32V tdV at *
      go_enter Tryz.func13, Tryz.ntmps13
      go_wp2_with fail
      refine (HA.out _).mono ?_
      rintro e w' ⟨rfl, rfl⟩
      go_wp2_with fail
      refine (HB.out _).mono ?_
      rintro e w' ⟨rfl, rfl⟩
      go_wp2_with fail
      exact bodyPost_ret (results_row_tmp2 (P := Tryz.prog) rfl _ _ (w.heap.size + 1) 31 _ (0, 0) _ rfl (two_new w _ _) Tryz.underlying31 rfl infoAnsS) rfl ⟨rfl, ((Fr.refl _ w).alloc _).alloc _⟩
    · have hzl := mGet_lt hz
      have hzl2 : z < 4294967296 := by simpa [numSize] using hzl
      rw [h2] at HB
      have hst : ((n : Int) + 4) % 4294967296 = (w32 (n + 4) : Nat) := by unfold w32; omega
      have hsp : ((n : Int) + 4 + z) % 4294967296 = (w32 (w32 (n + 4) + z) : Nat) := by unfold w32; omega
      have hl1 : w32 (w32 (n + 4) + z) < 4294967296 := by unfold w32; omega
      have hl2 : w32 (n + 4) < 4294967296 := by unfold w32; omega
      by_cases hc : w32 (w32 (n + 4) + z) < w32 (n + 4) ∨ l.length < w32 (w32 (n + 4) + z)
      · have hs : sText l off = (⟨0, [], false, true⟩, l, 1) := by simp [sText, h, h2, sEnd, hc]
        rw [hs]
        clear hs h h2 hlt hzl hz
        generalize w32 (w32 (n + 4) + z) = sp at *
        generalize w32 (n + 4) = st at *
        have hsz : (strOf l).size = l.length := strOf_size l
        have hc2 : (((sp : Nat) : Int) < (st : Nat)) ∨ ((¬ (((sp : Nat) : Int) < (st : Nat))) ∧ ((strOf l).size : Int) < (sp : Nat)) := by omega
        clear hc
        rcases hc2 with hc | ⟨hc, hc3⟩
        all_goals
          unfold stepV tupV tup32V tdV at *
          go_enter Tryz.func13, Tryz.ntmps13
          go_wp2_with fail
          refine (HA.out _).mono ?_
          rintro e w' ⟨rfl, rfl⟩
          go_wp2_with fail
          refine (HB.out _).mono ?_
          rintro e w' ⟨rfl, rfl⟩
          go_wp2_with fail
          exact bodyPost_ret (results_row_tmp2 (P := Tryz.prog) rfl _ _ (w.heap.size + 1) 31 _ (0, 0) _ rfl (two_new w _ _) Tryz.underlying31 rfl infoAnsS) rfl ⟨rfl, ((Fr.refl _ w).alloc _).alloc _⟩
      · have hs : sText l off = (.ofText ((l.drop (w32 (n + 4))).take (w32 (w32 (n + 4) + z) - w32 (n + 4))), l, 0) := by simp [sText, h, h2, hc]
        rw [hs]
        clear hs h h2 hlt hzl hz
        generalize w32 (w32 (n + 4) + z) = sp at *
        generalize w32 (n + 4) = st at *
        have hsz : (strOf l).size = l.length := strOf_size l
        have hc1 : ¬ (((sp : Nat) : Int) < (st : Nat)) := by omega
        have hc2 : ¬ (((strOf l).size : Int) < (sp : Nat)) := by omega
        have hle : st ≤ sp := by omega
        have hle2 : sp ≤ (strOf l).size := by omega
        have hspz : sp = st + z := by omega
        subst hspz
        have HX := Lib.hid (show (strOf l).extract st (st + z) = strOf ((l.drop st).take (st + z - st)) from by apply ByteArray.ext; simp [strOf])
        clear hc
        unfold stepV tupV tup32V tdV at *
        go_enter Tryz.func13, Tryz.ntmps13
        go_wp2_with fail
        refine (HA.out _).mono ?_
        rintro e w' ⟨rfl, rfl⟩
        go_wp2_with fail
        refine (HB.out _).mono ?_
        rintro e w' ⟨rfl, rfl⟩
        go_wp2_with fail
        exact bodyPost_ret (results_row_tmp2 (P := Tryz.prog) rfl _ _ (w.heap.size + 1) 31 _ (0, 0) _ rfl (two_new w _ _) Tryz.underlying31 rfl infoAnsS) rfl ⟨by simp only [ansC, Ans.ofText]; rw [← HX.out]; rfl, ((Fr.refl _ w).alloc _).alloc _⟩
end Go.Proofs.YtjfgippolckaeaaGreat
