/- FnTableMutated: a field that is changed in place is read as it was changed to. -/
import Derived.Test.YtjfgippolckaeaaGreatFnTableMade
namespace Go.Proofs.YtjfgippolckaeaaGreat
open Go.RowKit
set_option linter.unusedVariables false
set_option linter.unusedSimpArgs false

theorem one_done (l m : List UInt8) (pos : Nat) (k : Int) (off num : Nat) (b : Bool) (h : mAns l pos 10 k off num = (Ans.ofDone b, m)) (hl : l.length ≤ 1000000000) (hp : pos < 4294967296) (hn : num < 2 ^ 64) (w : World) :
    Calls Tryz.prog 10 #[.string (strOf l), .int .u32 pos, .agg #[.int .u8 10, .int .u8 k, .int .u32 off, .int .u64 num]] w fun e w' =>
      e = .returned (.tuple #[.agg #[.int .u64 0, .string ⟨#[]⟩, .bool b, .bool false], .string (strOf m)]) ∧ Fr0 w w' :=
  one_ans l pos ⟨10, k, off, num⟩ _ _ h hl hp hn w

set_option maxRecDepth 20000 in
set_option maxHeartbeats 16000000 in
theorem FnTableMutated_walk (ao : Option Addr) (n cap : Nat) (fs : List Fld) (more : Int) (behind : Bool) (which num : Int) (w1 : (Lit.int .u8 more).wf = true) (w3 : (Lit.int .u8 which).wf = true) (w4 : (Lit.int .u64 num).wf = true) (w : World)
    (w0 : RowAt w (.slice ao n cap) n (fs.flatMap fldC)) (hlen : fs.length = n) (hcap : n ≤ cap) (hok : ∀ x ∈ fs, FldOk x) :
    Calls Tryz.prog 3 #[.slice ao n cap, .int .u8 more, .bool behind, .int .u8 which, .int .u64 num] w fun e w' => e = .returned (.bool true) ∧ Below w.heap.size w w' := by
  obtain ⟨mo, rfl, hmo⟩ : ∃ n : Nat, more = n ∧ n < 256 := by
    have := bounds_u8 w1
    exact ⟨more.toNat, by omega, by omega⟩
  obtain ⟨wh, rfl, hwh⟩ : ∃ n : Nat, which = n ∧ n < 256 := by
    have := bounds_u8 w3
    exact ⟨which.toNat, by omega, by omega⟩
  obtain ⟨x, rfl, hx⟩ : ∃ n : Nat, num = n ∧ n < 2 ^ 64 := by
    have := bounds_u64 w4
    exact ⟨num.toNat, by omega, by omega⟩
  clear w1 w3 w4
  have HW := Lib.hid w0
  have HOK := Lib.hid hok
  have HN := Lib.hid hlen
  have HX := Lib.hid hx
  clear w0 hok hlen hcap
  by_cases h1 : 2147483647 < n
  · go_enter Tryz.func3, Tryz.ntmps3
    go_wp2_with fail
    go_ret
    exact ⟨rfl, Below.refl _ _⟩
  have HMK := Lib.hid (MakeTable_calls ao n cap fs mo behind w HW.out HN.out HOK.out (by omega) hmo)
  cases hmk : mkTable fs mo behind with
  | none =>
    rw [hmk] at HMK
    unfold mkV at HMK
    clear hmk
    go_enter Tryz.func3, Tryz.ntmps3
    go_wp2_with fail
    refine HMK.out.mono ?_
    rintro e w2 ⟨rfl, hf2⟩
    go_wp2_with (go_at_call 9; refine (tableAwake_calls _).mono ?_; rintro e w' ⟨rfl, hf⟩)
    go_ret
    exact ⟨rfl, Fr0.below (hf2.trans hf)⟩
  | some y =>
    obtain ⟨l, pos⟩ := y
    rw [hmk] at HMK
    unfold mkV at HMK
    by_cases h2 : n = 0 ∨ 40 < n
    · clear hmk
      rcases h2 with rfl | h2
      all_goals
        go_enter Tryz.func3, Tryz.ntmps3
        go_wp2_with fail
        refine HMK.out.mono ?_
        rintro e w2 ⟨rfl, hf2⟩
        go_wp2_with (go_at_call 9; refine (tableAwake_calls _).mono ?_; rintro e w' ⟨rfl, hf⟩)
        go_ret
        exact ⟨rfl, Fr0.below (hf2.trans hf)⟩
    have h40 : ¬ 40 < n := fun h => h2 (.inr h)
    have hn0 : ¬ n = 0 := fun h => h2 (.inl h)
    have hnb : (((n : Nat) : Int) == 0) = false := by simp; omega
    clear h2
    obtain ⟨kk, hkk⟩ : ∃ kk, kk = wh % n := ⟨_, rfl⟩
    have hkn : kk < n := by rw [hkk]; exact Nat.mod_lt _ (by omega)
    have hki : ((wh : Nat) : Int) % ((n : Nat) : Int) = ((kk : Nat) : Int) := by rw [hkk]; simp
    clear hkk
    obtain ⟨vt, B, sl, hL, hB⟩ := lay_of hmk
    have hsll : sl.length = n := by rw [hB.len]; exact HN.out
    have hll := hL.llen
    have hpl := hL.plow
    have HL := Lib.hid hL
    have HB := Lib.hid hB
    have HSL := Lib.hid hsll
    have HLL := Lib.hid (show l.length ≤ 1000000000 ∧ pos < 4294967296 by omega)
    have hkl : kk < fs.length := by have := HN.out; omega
    -- what the first step answers, and what is read behind it
    have hstep : ∃ m b kd, b = (fs[kk]'hkl).has ∧ kd = (if (fs[kk]'hkl).has then (fs[kk]'hkl).k else 5) ∧ mAns l pos 10 kd (4 + 2 * kk) x = (Ans.ofDone b, m) ∧ m.length = l.length ∧ (b = false → m = l) ∧
        ∀ i (hi : i < fs.length), fs[i].has = true → 0 < numSize fs[i].k ∧ (mAns m pos 1 fs[i].k (4 + 2 * i) 0).1 = Ans.ofNum (le (numB fs[i].k (if i = kk then x else fs[i].num))) := by
      cases hh : (fs[kk]'hkl).has with
      | true =>
        obtain ⟨a1, a2, a3, a4⟩ := hB.at_ kk hkl hh
        have hag : (sl ++ List.replicate mo 0).getD kk 0 = sl.getD kk 0 := all_get hsll hkn
        have hxl : (numB (fs[kk]'hkl).k x).length = numSize (fs[kk]'hkl).k := numB_length _ _
        have hp1 := put_has hL kk (fs[kk]'hkl).k x a1 (by rw [hag]; exact a2) (by rw [hag]; exact a3) (by omega)
        rw [hag] at hp1
        have hfit := (hL.body _ _ a2 a3).1
        have hL2 := hL.put (x := numB (fs[kk]'hkl).k x) (sl.getD kk 0) a2 (by rw [hxl]; exact a3) (by rw [hxl]; exact Nat.pos_of_ne_zero a1.1)
        have hB2 := hB.put kk hkl hh x
        refine ⟨_, true, _, rfl, rfl, hp1, putAt_length _ _ _ (by rw [hxl]; omega), (fun h => by cases h), fun i hi hhi => ?_⟩
        have hi' : i < (fs.set kk { fs[kk]'hkl with num := x }).length := by simpa using hi
        have hhas : ((fs.set kk { fs[kk]'hkl with num := x })[i]'hi').has = true := by
          rw [List.getElem_set]; split
          · rename_i e; subst e; exact hhi
          · exact hhi
        have hkind : ((fs.set kk { fs[kk]'hkl with num := x })[i]'hi').k = fs[i].k := by
          rw [List.getElem_set]; split
          · rename_i e; subst e; rfl
          · rfl
        have hnum : ((fs.set kk { fs[kk]'hkl with num := x })[i]'hi').num = if i = kk then x else fs[i].num := by
          rw [List.getElem_set]; split
          · rename_i e; rw [if_pos e.symm]
          · rename_i e; rw [if_neg (fun e' => e e'.symm)]
        obtain ⟨b1, b2, b3, b4⟩ := hB2.at_ i hi' hhas
        rw [hkind] at b1 b3 b4
        rw [hnum] at b4
        have hin : i < n := by have := HN.out; omega
        have hag2 : (sl ++ List.replicate mo 0).getD i 0 = sl.getD i 0 := all_get hsll hin
        exact ⟨Nat.pos_of_ne_zero b1.1, read_has hL2 i _ _ 0 b1 (by rw [hag2]; exact b2) (by rw [hag2]; exact b3) (by rw [hag2]; exact b4) (by omega)⟩
      | false =>
        have h0 := hB.no kk hkl hh
        have hag : (sl ++ List.replicate mo 0).getD kk 0 = sl.getD kk 0 := all_get hsll hkn
        refine ⟨l, false, 5, rfl, by simp, put_no hL kk x (by rw [hag]; exact h0) (by omega), rfl, fun _ => rfl, fun i hi hhi => ?_⟩
        obtain ⟨b1, b2, b3, b4⟩ := hB.at_ i hi hhi
        have hne : i ≠ kk := fun e => by subst e; rw [hh] at hhi; cases hhi
        have hin : i < n := by have := HN.out; omega
        have hag2 : (sl ++ List.replicate mo 0).getD i 0 = sl.getD i 0 := all_get hsll hin
        rw [if_neg hne]
        exact ⟨Nat.pos_of_ne_zero b1.1, read_has hL i _ _ 0 b1 (by rw [hag2]; exact b2) (by rw [hag2]; exact b3) (by rw [hag2]; exact b4) (by omega)⟩
    obtain ⟨m, b, kd, hb, hkd, hans, hml, hsame, hread⟩ := hstep
    have HONE0 := Lib.hid (fun w => one_done l m pos kd (4 + 2 * kk) x b hans HLL.out.1 HLL.out.2 HX.out w)
    have HREAD := Lib.hid hread
    have HML : RowKit.Hid (m.length ≤ 1000000000 ∧ pos < 4294967296) := Lib.hid (by rw [hml]; exact HLL.out)
    have hsz : (strOf m).size = (strOf l).size := by rw [strOf_size, strOf_size, hml]
    clear hans hread hL hB hsll hmk hpl hll hml
    go_enter Tryz.func3, Tryz.ntmps3
    go_wp2_with fail
    refine HMK.out.mono ?_
    rintro e w2 ⟨rfl, hf2⟩
    have hrw0 := HW.out.fr hf2
    rw [← HN.out] at hrw0
    obtain ⟨g0, o0, cap0, hv, hgl, hcs⟩ := row_cells (f := fldC) (fun _ => rfl) hrw0 hkl
    injection hv with hv1 hv2 hv3
    subst hv1 hv3
    have s0 : w2.cell? ⟨g0, o0 + kk * 4, none⟩ = some (.bool (fs[kk]'hkl).has) := hcs 0 _ rfl
    have s1 : w2.cell? ⟨g0, o0 + kk * 4 + 1, none⟩ = some (.int .u8 (fs[kk]'hkl).k) := hcs 1 _ rfl
    have hsafe : ∀ w3, Fr0 w2 w3 → ∀ o, (w3.alloc o).cell? ⟨g0, o0 + kk * 4, none⟩ = some (.bool (fs[kk]'hkl).has) := fun w3 hf o => (Fr.cell (hf.alloc o) (p := ⟨g0, o0 + kk * 4, none⟩) hgl (fun x => x)).trans s0
    have HSAFE := Lib.hid hsafe
    have HF2 := Lib.hid hf2
    have hoff : (4 : Int) + 2 * (kk : Int) = ((4 + 2 * kk : Nat) : Int) := by omega
    have HOFF0 := Lib.hid hoff
    rw [← hb] at s0 HSAFE
    have hkind : (fs[kk]'hkl).k = kd ∨ b = false := by rw [hkd, ← hb]; cases b <;> simp
    have hk5 : b = false → kd = 5 := by rw [hkd, ← hb]; intro h; rw [h]; rfl
    clear hcs hv2 hrw0 hsafe hf2 hoff hgl
    generalize (fs[kk]'hkl).k = kf at *
    clear hkd hb
    cases b with
    | true =>
      obtain rfl : kf = kd := hkind.resolve_right (by decide)
      clear hsame hkind hk5
      go_wp2_with fail
      rw [HOFF0.out]
      refine (HONE0.out _).mono ?_
      rintro e w3 ⟨rfl, hf3⟩
      have d0 := HSAFE.out _ hf3
      have HFL0 := Lib.hid (HF2.out.trans hf3)
      clear hf3
      go_wp2_with fail
      go_quiet (fail)
      have HFL := Lib.hid ((HFL0.out.alloc (.cells #[.int .u64 0, .string ⟨#[]⟩, .bool true, .bool false] 31)).drewN nq)
      clear d0
      go_wp2_with fail
      go_loopw [109] (fun iv wr => ∃ i : Nat, i ≤ n ∧ iv = .int .i64 i ∧ Fr0 w wr) (fun iv _ => n - (intOf iv).toNat)
      case atStart => exact ⟨0, Nat.zero_le _, rfl, HFL.out⟩
      case round =>
        obtain ⟨i, hi1, rfl, hfr⟩ := hrel
        have HFR := Lib.hid hfr
        by_cases hlt : i < n
        · have hil : i < fs.length := by have := HN.out; omega
          have hrw := HW.out.fr hfr
          rw [← HN.out] at hrw
          obtain ⟨g, o, cap', hv, hgl, hcs⟩ := row_cells (f := fldC) (fun _ => rfl) hrw hil
          injection hv with hv1 hv2 hv3
          subst hv3
          injection hv1 with hv1
          injection hv1 with hv1 hv4 _
          subst hv1 hv4
          have hso := HOK.out _ (List.getElem_mem hil)
          have hrd := HREAD.out i hil
          clear hv2 hrw
          generalize fs[i] = f at *
          have s0 : wr.cell? ⟨g0, o0 + i * 4, none⟩ = some (.bool f.has) := hcs 0 _ rfl
          have s1 : wr.cell? ⟨g0, o0 + i * 4 + 1, none⟩ = some (.int .u8 f.k) := hcs 1 _ rfl
          have s2 : wr.cell? ⟨g0, o0 + i * 4 + 2, none⟩ = some (.int .u64 f.num) := hcs 2 _ rfl
          have s3 : wr.cell? ⟨g0, o0 + i * 4 + 3, none⟩ = some (.int .u8 f.gap) := hcs 3 _ rfl
          obtain ⟨fh, fk, fn, fg⟩ := f
          dsimp only at s0 s1 s2 s3 hrd
          have hnum : fn < 2 ^ 64 := hso.2.1
          have hoff : (4 : Int) + 2 * (i : Int) = ((4 + 2 * i : Nat) : Int) := by omega
          have HOFF := Lib.hid hoff
          clear hcs hso hfr hoff
          cases fh with
          | false =>
            clear hrd
            go_wp2_with fail
            go_roundw
            case rel => exact ⟨i + 1, by omega, by go_num, HFR.out.alloc _⟩
            case measure => simp [intOf]; omega
          | true =>
            obtain ⟨hkp, hra⟩ := hrd rfl
            clear hrd
            by_cases hik : i = kk
            · subst hik
              rw [if_pos rfl] at hra
              obtain ⟨r, hone⟩ := one_num3 m pos 1 fk (4 + 2 * i) 0 _ hra HML.out.1 HML.out.2 (by omega)
              clear hra
              have hnb := fun w => NumBytes_calls fk x w HX.out
              have hna := fun w => numAt_list (numB fk x) fk 0 w (by rw [numB_length]; have := numSize_le fk; omega) (by omega)
              rw [numAt_own2 fk x hkp] at hna
              have HNB := Lib.hid hnb
              have HNA := Lib.hid hna
              have HCK : RowKit.Hid (∀ w', Fr0 (wr.alloc (.cells #[.bool true, .int .u8 fk, .int .u64 fn, .int .u8 fg] 29)) w' → w'.cell? ⟨wr.heap.size, 1, none⟩ = some (.int .u8 fk)) := Lib.hid (fun w' hf => (Fr.cell hf (p := ⟨wr.heap.size, 1, none⟩) (by simp) (fun x => x)).trans (by rw [cell_of (heap_alloc_new wr _)]; rfl))
              have HONE := Lib.hid hone
              clear hnb hna hone
              generalize le (numB fk x) = nv at *
              unfold tupV at HNA
              go_wp2_with fail
              refine wp_region_rows2 (by kernel_rfl) [some 124, some 125, some 126, some 127, some 128, some 129, some 130, some 123, some 131, some 132, some 21, some 22] (fun w' => Fr0 (wr.alloc (.cells #[.bool true, .int .u8 fk, .int .u64 fn, .int .u8 fg] 29)) w') Fr0
                (PhiZ (fun i => none) (fun i => match i with | 0 => .pointer (some ⟨wr.heap.size, 1, none⟩) | 1 => .int .u8 fk | 2 => .int .u64 x | 3 => .string (strOf (numB fk x)) | 4 => .pointer (some ⟨wr.heap.size, 1, none⟩) | 5 => .int .u8 fk | 6 => .tuple #[.int .u64 nv, .int .u8 0] | 7 => .tuple #[.int .u64 nv, .int .u8 0] | 8 => .int .u64 nv | 9 => .int .u8 0 | 10 => .int .u64 nv | _ => .int .u8 0))
                rfl (by decide) (by kernel_rfl) _ (fun V => by simp only [putAll, Act.put, List.setIfInBounds_toArray, List.set_cons_zero, List.set_cons_succ]; rfl) (PhiZ_keep _ _) (by kernel_rfl) ((Fr.refl _ _).drew) ?hend ?hstep
              case hstep =>
                refine ⟨?_, ?_, ?_, ?_, ?_, ?_, ?_, ?_, ?_, ?_, ?_, ?_, trivial⟩
                · intro V w' hS hV K' hK
                  clear hV
                  simp only [Act.put, List.setIfInBounds_toArray, List.set_cons_zero, List.set_cons_succ] at hK
                  have HK := Lib.hid hK; clear hK
                  go_simp
                  exact HK.out _ _ hS (Fr.refl _ w') (by first | rfl | exact congrArg _ (rfl))
                · intro V w' hS hV K' hK
                  obtain ⟨h0, _⟩ := hV
                  have h0 : V 0 = .pointer (some ⟨wr.heap.size, 1, none⟩) := h0
                  simp only [Act.put, List.setIfInBounds_toArray, List.set_cons_zero, List.set_cons_succ, h0] at hK
                  have HK := Lib.hid hK; clear hK
                  have cq := HCK.out _ hS
                  go_simp
                  exact HK.out _ _ hS (Fr.refl _ w') (by first | rfl | exact congrArg _ (rfl))
                · intro V w' hS hV K' hK
                  clear hV
                  simp only [Act.put, List.setIfInBounds_toArray, List.set_cons_zero, List.set_cons_succ] at hK
                  have HK := Lib.hid hK; clear hK
                  go_simp
                  exact HK.out _ _ hS (Fr.refl _ w') (by first | rfl | exact congrArg _ (rfl))
                · intro V w' hS hV K' hK
                  obtain ⟨h1, h2, _⟩ := hV
                  have h1 : V 1 = .int .u8 fk := h1
                  have h2 : V 2 = .int .u64 x := h2
                  simp only [Act.put, List.setIfInBounds_toArray, List.set_cons_zero, List.set_cons_succ, h1, h2] at hK
                  have HK := Lib.hid hK; clear hK
                  go_simp
                  refine (HNB.out w').mono ?_
                  rintro e w2 ⟨rfl, hf⟩
                  exact HK.out _ _ (hS.trans hf) hf rfl
                · intro V w' hS hV K' hK
                  clear hV
                  simp only [Act.put, List.setIfInBounds_toArray, List.set_cons_zero, List.set_cons_succ] at hK
                  have HK := Lib.hid hK; clear hK
                  go_simp
                  exact HK.out _ _ hS (Fr.refl _ w') (by first | rfl | exact congrArg _ (rfl))
                · intro V w' hS hV K' hK
                  obtain ⟨h4, _⟩ := hV
                  have h4 : V 4 = .pointer (some ⟨wr.heap.size, 1, none⟩) := h4
                  simp only [Act.put, List.setIfInBounds_toArray, List.set_cons_zero, List.set_cons_succ, h4] at hK
                  have HK := Lib.hid hK; clear hK
                  have cq := HCK.out _ hS
                  go_simp
                  exact HK.out _ _ hS (Fr.refl _ w') (by first | rfl | exact congrArg _ (rfl))
                · intro V w' hS hV K' hK
                  obtain ⟨h3, h5, _⟩ := hV
                  have h3 : V 3 = .string (strOf (numB fk x)) := h3
                  have h5 : V 5 = .int .u8 fk := h5
                  simp only [Act.put, List.setIfInBounds_toArray, List.set_cons_zero, List.set_cons_succ, h3, h5] at hK
                  have HK := Lib.hid hK; clear hK
                  go_simp
                  refine (HNA.out w').mono ?_
                  rintro e w2 ⟨rfl, rfl⟩
                  have hf := Fr.refl (fun _ : Nat => False) w'
                  exact HK.out _ _ (hS.trans hf) hf rfl
                · intro V w' hS hV K' hK
                  obtain ⟨h6, _⟩ := hV
                  have h6 : V 6 = .tuple #[.int .u64 nv, .int .u8 0] := h6
                  simp only [Act.put, List.setIfInBounds_toArray, List.set_cons_zero, List.set_cons_succ, h6] at hK
                  have HK := Lib.hid hK; clear hK
                  go_simp
                  exact HK.out _ _ hS (Fr.refl _ w') (by first | rfl | exact congrArg _ (rfl))
                · intro V w' hS hV K' hK
                  obtain ⟨h7, _⟩ := hV
                  have h7 : V 7 = .tuple #[.int .u64 nv, .int .u8 0] := h7
                  simp only [Act.put, List.setIfInBounds_toArray, List.set_cons_zero, List.set_cons_succ, h7] at hK
                  have HK := Lib.hid hK; clear hK
                  go_simp
                  exact HK.out _ _ hS (Fr.refl _ w') (by first | rfl | exact congrArg _ (rfl))
                · intro V w' hS hV K' hK
                  obtain ⟨h7, _⟩ := hV
                  have h7 : V 7 = .tuple #[.int .u64 nv, .int .u8 0] := h7
                  simp only [Act.put, List.setIfInBounds_toArray, List.set_cons_zero, List.set_cons_succ, h7] at hK
                  have HK := Lib.hid hK; clear hK
                  go_simp
                  exact HK.out _ _ hS (Fr.refl _ w') (by first | rfl | exact congrArg _ (rfl))
                · intro V w' hS hV K' hK
                  obtain ⟨h8, _⟩ := hV
                  have h8 : V 8 = .int .u64 nv := h8
                  simp only [Act.put, List.setIfInBounds_toArray, List.set_cons_zero, List.set_cons_succ, h8] at hK
                  have HK := Lib.hid hK; clear hK
                  go_simp
                  exact HK.out _ _ hS (Fr.refl _ w') (by first | rfl | exact congrArg _ (rfl))
                · intro V w' hS hV K' hK
                  obtain ⟨h9, _⟩ := hV
                  have h9 : V 9 = .int .u8 0 := h9
                  simp only [Act.put, List.setIfInBounds_toArray, List.set_cons_zero, List.set_cons_succ, h9] at hK
                  have HK := Lib.hid hK; clear hK
                  go_simp
                  exact HK.out _ _ hS (Fr.refl _ w') (by first | rfl | exact congrArg _ (rfl))
              case hend =>
                intro V w5 hf5 hV
                have h10 : V 10 = .int .u64 nv := hV 10 (by simp)
                have h11 : V 11 = .int .u8 0 := hV 11 (by simp)
                rw [h10, h11]
                clear hV h10 h11
                have cq := HCK.out _ hf5
                have HF5 := Lib.hid ((HFR.out.alloc _).trans hf5)
                clear hf5
                go_wp2_with fail
                rw [HOFF.out]
                refine (HONE.out _).mono ?_
                rintro e w6 ⟨rfl, hf6⟩
                have HF6 := Lib.hid (HF5.out.trans hf6)
                clear hf6 cq
                go_wp2_with fail
                go_roundw
                case rel =>
                  exact ⟨i + 1, by omega, by go_num, HF6.out.alloc _⟩
                case measure => simp [intOf]; omega
            · have hbk : ((i : Int) == (kk : Int)) = false := by simp; omega
              rw [if_neg hik] at hra
              obtain ⟨r, hone⟩ := one_num3 m pos 1 fk (4 + 2 * i) 0 _ hra HML.out.1 HML.out.2 (by omega)
              clear hra
              have hnb := fun w => NumBytes_calls fk fn w hnum
              have hna := fun w => numAt_list (numB fk fn) fk 0 w (by rw [numB_length]; have := numSize_le fk; omega) (by omega)
              rw [numAt_own2 fk fn hkp] at hna
              have HNB := Lib.hid hnb
              have HNA := Lib.hid hna
              have HCK : RowKit.Hid (∀ w', Fr0 (wr.alloc (.cells #[.bool true, .int .u8 fk, .int .u64 fn, .int .u8 fg] 29)) w' → w'.cell? ⟨wr.heap.size, 1, none⟩ = some (.int .u8 fk)) := Lib.hid (fun w' hf => (Fr.cell hf (p := ⟨wr.heap.size, 1, none⟩) (by simp) (fun x => x)).trans (by rw [cell_of (heap_alloc_new wr _)]; rfl))
              have HONE := Lib.hid hone
              clear hnb hna hone
              generalize le (numB fk fn) = nv at *
              unfold tupV at HNA
              go_wp2_with fail
              refine wp_region_rows2 (by kernel_rfl) [some 124, some 125, some 126, some 127, some 128, some 129, some 130, some 123, some 131, some 132, some 21, some 22] (fun w' => Fr0 (wr.alloc (.cells #[.bool true, .int .u8 fk, .int .u64 fn, .int .u8 fg] 29)) w') Fr0
                (PhiZ (fun i => none) (fun i => match i with | 0 => .pointer (some ⟨wr.heap.size, 1, none⟩) | 1 => .int .u8 fk | 2 => .int .u64 fn | 3 => .string (strOf (numB fk fn)) | 4 => .pointer (some ⟨wr.heap.size, 1, none⟩) | 5 => .int .u8 fk | 6 => .tuple #[.int .u64 nv, .int .u8 0] | 7 => .tuple #[.int .u64 nv, .int .u8 0] | 8 => .int .u64 nv | 9 => .int .u8 0 | 10 => .int .u64 nv | _ => .int .u8 0))
                rfl (by decide) (by kernel_rfl) _ (fun V => by simp only [putAll, Act.put, List.setIfInBounds_toArray, List.set_cons_zero, List.set_cons_succ]; rfl) (PhiZ_keep _ _) (by kernel_rfl) ((Fr.refl _ _).drew) ?hend ?hstep
              case hstep =>
                refine ⟨?_, ?_, ?_, ?_, ?_, ?_, ?_, ?_, ?_, ?_, ?_, ?_, trivial⟩
                · intro V w' hS hV K' hK
                  clear hV
                  simp only [Act.put, List.setIfInBounds_toArray, List.set_cons_zero, List.set_cons_succ] at hK
                  have HK := Lib.hid hK; clear hK
                  go_simp
                  exact HK.out _ _ hS (Fr.refl _ w') (by first | rfl | exact congrArg _ (rfl))
                · intro V w' hS hV K' hK
                  obtain ⟨h0, _⟩ := hV
                  have h0 : V 0 = .pointer (some ⟨wr.heap.size, 1, none⟩) := h0
                  simp only [Act.put, List.setIfInBounds_toArray, List.set_cons_zero, List.set_cons_succ, h0] at hK
                  have HK := Lib.hid hK; clear hK
                  have cq := HCK.out _ hS
                  go_simp
                  exact HK.out _ _ hS (Fr.refl _ w') (by first | rfl | exact congrArg _ (rfl))
                · intro V w' hS hV K' hK
                  clear hV
                  simp only [Act.put, List.setIfInBounds_toArray, List.set_cons_zero, List.set_cons_succ] at hK
                  have HK := Lib.hid hK; clear hK
                  go_simp
                  exact HK.out _ _ hS (Fr.refl _ w') (by first | rfl | exact congrArg _ (rfl))
                · intro V w' hS hV K' hK
                  obtain ⟨h1, h2, _⟩ := hV
                  have h1 : V 1 = .int .u8 fk := h1
                  have h2 : V 2 = .int .u64 fn := h2
                  simp only [Act.put, List.setIfInBounds_toArray, List.set_cons_zero, List.set_cons_succ, h1, h2] at hK
                  have HK := Lib.hid hK; clear hK
                  go_simp
                  refine (HNB.out w').mono ?_
                  rintro e w2 ⟨rfl, hf⟩
                  exact HK.out _ _ (hS.trans hf) hf rfl
                · intro V w' hS hV K' hK
                  clear hV
                  simp only [Act.put, List.setIfInBounds_toArray, List.set_cons_zero, List.set_cons_succ] at hK
                  have HK := Lib.hid hK; clear hK
                  go_simp
                  exact HK.out _ _ hS (Fr.refl _ w') (by first | rfl | exact congrArg _ (rfl))
                · intro V w' hS hV K' hK
                  obtain ⟨h4, _⟩ := hV
                  have h4 : V 4 = .pointer (some ⟨wr.heap.size, 1, none⟩) := h4
                  simp only [Act.put, List.setIfInBounds_toArray, List.set_cons_zero, List.set_cons_succ, h4] at hK
                  have HK := Lib.hid hK; clear hK
                  have cq := HCK.out _ hS
                  go_simp
                  exact HK.out _ _ hS (Fr.refl _ w') (by first | rfl | exact congrArg _ (rfl))
                · intro V w' hS hV K' hK
                  obtain ⟨h3, h5, _⟩ := hV
                  have h3 : V 3 = .string (strOf (numB fk fn)) := h3
                  have h5 : V 5 = .int .u8 fk := h5
                  simp only [Act.put, List.setIfInBounds_toArray, List.set_cons_zero, List.set_cons_succ, h3, h5] at hK
                  have HK := Lib.hid hK; clear hK
                  go_simp
                  refine (HNA.out w').mono ?_
                  rintro e w2 ⟨rfl, rfl⟩
                  have hf := Fr.refl (fun _ : Nat => False) w'
                  exact HK.out _ _ (hS.trans hf) hf rfl
                · intro V w' hS hV K' hK
                  obtain ⟨h6, _⟩ := hV
                  have h6 : V 6 = .tuple #[.int .u64 nv, .int .u8 0] := h6
                  simp only [Act.put, List.setIfInBounds_toArray, List.set_cons_zero, List.set_cons_succ, h6] at hK
                  have HK := Lib.hid hK; clear hK
                  go_simp
                  exact HK.out _ _ hS (Fr.refl _ w') (by first | rfl | exact congrArg _ (rfl))
                · intro V w' hS hV K' hK
                  obtain ⟨h7, _⟩ := hV
                  have h7 : V 7 = .tuple #[.int .u64 nv, .int .u8 0] := h7
                  simp only [Act.put, List.setIfInBounds_toArray, List.set_cons_zero, List.set_cons_succ, h7] at hK
                  have HK := Lib.hid hK; clear hK
                  go_simp
                  exact HK.out _ _ hS (Fr.refl _ w') (by first | rfl | exact congrArg _ (rfl))
                · intro V w' hS hV K' hK
                  obtain ⟨h7, _⟩ := hV
                  have h7 : V 7 = .tuple #[.int .u64 nv, .int .u8 0] := h7
                  simp only [Act.put, List.setIfInBounds_toArray, List.set_cons_zero, List.set_cons_succ, h7] at hK
                  have HK := Lib.hid hK; clear hK
                  go_simp
                  exact HK.out _ _ hS (Fr.refl _ w') (by first | rfl | exact congrArg _ (rfl))
                · intro V w' hS hV K' hK
                  obtain ⟨h8, _⟩ := hV
                  have h8 : V 8 = .int .u64 nv := h8
                  simp only [Act.put, List.setIfInBounds_toArray, List.set_cons_zero, List.set_cons_succ, h8] at hK
                  have HK := Lib.hid hK; clear hK
                  go_simp
                  exact HK.out _ _ hS (Fr.refl _ w') (by first | rfl | exact congrArg _ (rfl))
                · intro V w' hS hV K' hK
                  obtain ⟨h9, _⟩ := hV
                  have h9 : V 9 = .int .u8 0 := h9
                  simp only [Act.put, List.setIfInBounds_toArray, List.set_cons_zero, List.set_cons_succ, h9] at hK
                  have HK := Lib.hid hK; clear hK
                  go_simp
                  exact HK.out _ _ hS (Fr.refl _ w') (by first | rfl | exact congrArg _ (rfl))
              case hend =>
                intro V w5 hf5 hV
                have h10 : V 10 = .int .u64 nv := hV 10 (by simp)
                have h11 : V 11 = .int .u8 0 := hV 11 (by simp)
                rw [h10, h11]
                clear hV h10 h11
                have cq := HCK.out _ hf5
                have HF5 := Lib.hid ((HFR.out.alloc _).trans hf5)
                clear hf5
                go_wp2_with fail
                rw [HOFF.out]
                refine (HONE.out _).mono ?_
                rintro e w6 ⟨rfl, hf6⟩
                have HF6 := Lib.hid (HF5.out.trans hf6)
                clear hf6 cq
                go_wp2_with fail
                go_roundw
                case rel =>
                  exact ⟨i + 1, by omega, by go_num, HF6.out.alloc _⟩
                case measure => simp [intOf]; omega
        · go_wp2_with (go_at_call 9; refine (tableAwake_calls _).mono ?_; rintro e w' ⟨rfl, hf⟩)
          go_ret
          exact ⟨rfl, Fr0.below (HFR.out.trans hf)⟩
    | false =>
      obtain rfl : m = l := hsame rfl
      obtain rfl : kd = 5 := hk5 rfl
      clear hsame hkind hk5
      go_wp2_with fail
      rw [HOFF0.out]
      refine (HONE0.out _).mono ?_
      rintro e w3 ⟨rfl, hf3⟩
      have d0 := HSAFE.out _ hf3
      have HFL0 := Lib.hid (HF2.out.trans hf3)
      clear hf3
      go_wp2_with fail
      go_quiet (fail)
      have HFL := Lib.hid ((HFL0.out.alloc (.cells #[.int .u64 0, .string ⟨#[]⟩, .bool false, .bool false] 31)).drewN nq)
      clear d0
      go_wp2_with fail
      go_loopw [109] (fun iv wr => ∃ i : Nat, i ≤ n ∧ iv = .int .i64 i ∧ Fr0 w wr) (fun iv _ => n - (intOf iv).toNat)
      case atStart => exact ⟨0, Nat.zero_le _, rfl, HFL.out⟩
      case round =>
        obtain ⟨i, hi1, rfl, hfr⟩ := hrel
        have HFR := Lib.hid hfr
        by_cases hlt : i < n
        · have hil : i < fs.length := by have := HN.out; omega
          have hrw := HW.out.fr hfr
          rw [← HN.out] at hrw
          obtain ⟨g, o, cap', hv, hgl, hcs⟩ := row_cells (f := fldC) (fun _ => rfl) hrw hil
          injection hv with hv1 hv2 hv3
          subst hv3
          injection hv1 with hv1
          injection hv1 with hv1 hv4 _
          subst hv1 hv4
          have hso := HOK.out _ (List.getElem_mem hil)
          have hrd := HREAD.out i hil
          clear hv2 hrw
          generalize fs[i] = f at *
          have s0 : wr.cell? ⟨g0, o0 + i * 4, none⟩ = some (.bool f.has) := hcs 0 _ rfl
          have s1 : wr.cell? ⟨g0, o0 + i * 4 + 1, none⟩ = some (.int .u8 f.k) := hcs 1 _ rfl
          have s2 : wr.cell? ⟨g0, o0 + i * 4 + 2, none⟩ = some (.int .u64 f.num) := hcs 2 _ rfl
          have s3 : wr.cell? ⟨g0, o0 + i * 4 + 3, none⟩ = some (.int .u8 f.gap) := hcs 3 _ rfl
          obtain ⟨fh, fk, fn, fg⟩ := f
          dsimp only at s0 s1 s2 s3 hrd
          have hnum : fn < 2 ^ 64 := hso.2.1
          have hoff : (4 : Int) + 2 * (i : Int) = ((4 + 2 * i : Nat) : Int) := by omega
          have HOFF := Lib.hid hoff
          clear hcs hso hfr hoff
          cases fh with
          | false =>
            clear hrd
            go_wp2_with fail
            go_roundw
            case rel => exact ⟨i + 1, by omega, by go_num, HFR.out.alloc _⟩
            case measure => simp [intOf]; omega
          | true =>
            obtain ⟨hkp, hra⟩ := hrd rfl
            clear hrd
            by_cases hik : i = kk
            · subst hik
              rw [if_pos rfl] at hra
              obtain ⟨r, hone⟩ := one_num3 m pos 1 fk (4 + 2 * i) 0 _ hra HML.out.1 HML.out.2 (by omega)
              clear hra
              have hnb := fun w => NumBytes_calls fk x w HX.out
              have hna := fun w => numAt_list (numB fk x) fk 0 w (by rw [numB_length]; have := numSize_le fk; omega) (by omega)
              rw [numAt_own2 fk x hkp] at hna
              have HNB := Lib.hid hnb
              have HNA := Lib.hid hna
              have HCK : RowKit.Hid (∀ w', Fr0 (wr.alloc (.cells #[.bool true, .int .u8 fk, .int .u64 fn, .int .u8 fg] 29)) w' → w'.cell? ⟨wr.heap.size, 1, none⟩ = some (.int .u8 fk)) := Lib.hid (fun w' hf => (Fr.cell hf (p := ⟨wr.heap.size, 1, none⟩) (by simp) (fun x => x)).trans (by rw [cell_of (heap_alloc_new wr _)]; rfl))
              have HONE := Lib.hid hone
              clear hnb hna hone
              generalize le (numB fk x) = nv at *
              unfold tupV at HNA
              go_wp2_with fail
              refine wp_region_rows2 (by kernel_rfl) [some 124, some 125, some 126, some 127, some 128, some 129, some 130, some 123, some 131, some 132, some 21, some 22] (fun w' => Fr0 (wr.alloc (.cells #[.bool true, .int .u8 fk, .int .u64 fn, .int .u8 fg] 29)) w') Fr0
                (PhiZ (fun i => none) (fun i => match i with | 0 => .pointer (some ⟨wr.heap.size, 1, none⟩) | 1 => .int .u8 fk | 2 => .int .u64 x | 3 => .string (strOf (numB fk x)) | 4 => .pointer (some ⟨wr.heap.size, 1, none⟩) | 5 => .int .u8 fk | 6 => .tuple #[.int .u64 nv, .int .u8 0] | 7 => .tuple #[.int .u64 nv, .int .u8 0] | 8 => .int .u64 nv | 9 => .int .u8 0 | 10 => .int .u64 nv | _ => .int .u8 0))
                rfl (by decide) (by kernel_rfl) _ (fun V => by simp only [putAll, Act.put, List.setIfInBounds_toArray, List.set_cons_zero, List.set_cons_succ]; rfl) (PhiZ_keep _ _) (by kernel_rfl) ((Fr.refl _ _).drew) ?hend ?hstep
              case hstep =>
                refine ⟨?_, ?_, ?_, ?_, ?_, ?_, ?_, ?_, ?_, ?_, ?_, ?_, trivial⟩
                · intro V w' hS hV K' hK
                  clear hV
                  simp only [Act.put, List.setIfInBounds_toArray, List.set_cons_zero, List.set_cons_succ] at hK
                  have HK := Lib.hid hK; clear hK
                  go_simp
                  exact HK.out _ _ hS (Fr.refl _ w') (by first | rfl | exact congrArg _ (rfl))
                · intro V w' hS hV K' hK
                  obtain ⟨h0, _⟩ := hV
                  have h0 : V 0 = .pointer (some ⟨wr.heap.size, 1, none⟩) := h0
                  simp only [Act.put, List.setIfInBounds_toArray, List.set_cons_zero, List.set_cons_succ, h0] at hK
                  have HK := Lib.hid hK; clear hK
                  have cq := HCK.out _ hS
                  go_simp
                  exact HK.out _ _ hS (Fr.refl _ w') (by first | rfl | exact congrArg _ (rfl))
                · intro V w' hS hV K' hK
                  clear hV
                  simp only [Act.put, List.setIfInBounds_toArray, List.set_cons_zero, List.set_cons_succ] at hK
                  have HK := Lib.hid hK; clear hK
                  go_simp
                  exact HK.out _ _ hS (Fr.refl _ w') (by first | rfl | exact congrArg _ (rfl))
                · intro V w' hS hV K' hK
                  obtain ⟨h1, h2, _⟩ := hV
                  have h1 : V 1 = .int .u8 fk := h1
                  have h2 : V 2 = .int .u64 x := h2
                  simp only [Act.put, List.setIfInBounds_toArray, List.set_cons_zero, List.set_cons_succ, h1, h2] at hK
                  have HK := Lib.hid hK; clear hK
                  go_simp
                  refine (HNB.out w').mono ?_
                  rintro e w2 ⟨rfl, hf⟩
                  exact HK.out _ _ (hS.trans hf) hf rfl
                · intro V w' hS hV K' hK
                  clear hV
                  simp only [Act.put, List.setIfInBounds_toArray, List.set_cons_zero, List.set_cons_succ] at hK
                  have HK := Lib.hid hK; clear hK
                  go_simp
                  exact HK.out _ _ hS (Fr.refl _ w') (by first | rfl | exact congrArg _ (rfl))
                · intro V w' hS hV K' hK
                  obtain ⟨h4, _⟩ := hV
                  have h4 : V 4 = .pointer (some ⟨wr.heap.size, 1, none⟩) := h4
                  simp only [Act.put, List.setIfInBounds_toArray, List.set_cons_zero, List.set_cons_succ, h4] at hK
                  have HK := Lib.hid hK; clear hK
                  have cq := HCK.out _ hS
                  go_simp
                  exact HK.out _ _ hS (Fr.refl _ w') (by first | rfl | exact congrArg _ (rfl))
                · intro V w' hS hV K' hK
                  obtain ⟨h3, h5, _⟩ := hV
                  have h3 : V 3 = .string (strOf (numB fk x)) := h3
                  have h5 : V 5 = .int .u8 fk := h5
                  simp only [Act.put, List.setIfInBounds_toArray, List.set_cons_zero, List.set_cons_succ, h3, h5] at hK
                  have HK := Lib.hid hK; clear hK
                  go_simp
                  refine (HNA.out w').mono ?_
                  rintro e w2 ⟨rfl, rfl⟩
                  have hf := Fr.refl (fun _ : Nat => False) w'
                  exact HK.out _ _ (hS.trans hf) hf rfl
                · intro V w' hS hV K' hK
                  obtain ⟨h6, _⟩ := hV
                  have h6 : V 6 = .tuple #[.int .u64 nv, .int .u8 0] := h6
                  simp only [Act.put, List.setIfInBounds_toArray, List.set_cons_zero, List.set_cons_succ, h6] at hK
                  have HK := Lib.hid hK; clear hK
                  go_simp
                  exact HK.out _ _ hS (Fr.refl _ w') (by first | rfl | exact congrArg _ (rfl))
                · intro V w' hS hV K' hK
                  obtain ⟨h7, _⟩ := hV
                  have h7 : V 7 = .tuple #[.int .u64 nv, .int .u8 0] := h7
                  simp only [Act.put, List.setIfInBounds_toArray, List.set_cons_zero, List.set_cons_succ, h7] at hK
                  have HK := Lib.hid hK; clear hK
                  go_simp
                  exact HK.out _ _ hS (Fr.refl _ w') (by first | rfl | exact congrArg _ (rfl))
                · intro V w' hS hV K' hK
                  obtain ⟨h7, _⟩ := hV
                  have h7 : V 7 = .tuple #[.int .u64 nv, .int .u8 0] := h7
                  simp only [Act.put, List.setIfInBounds_toArray, List.set_cons_zero, List.set_cons_succ, h7] at hK
                  have HK := Lib.hid hK; clear hK
                  go_simp
                  exact HK.out _ _ hS (Fr.refl _ w') (by first | rfl | exact congrArg _ (rfl))
                · intro V w' hS hV K' hK
                  obtain ⟨h8, _⟩ := hV
                  have h8 : V 8 = .int .u64 nv := h8
                  simp only [Act.put, List.setIfInBounds_toArray, List.set_cons_zero, List.set_cons_succ, h8] at hK
                  have HK := Lib.hid hK; clear hK
                  go_simp
                  exact HK.out _ _ hS (Fr.refl _ w') (by first | rfl | exact congrArg _ (rfl))
                · intro V w' hS hV K' hK
                  obtain ⟨h9, _⟩ := hV
                  have h9 : V 9 = .int .u8 0 := h9
                  simp only [Act.put, List.setIfInBounds_toArray, List.set_cons_zero, List.set_cons_succ, h9] at hK
                  have HK := Lib.hid hK; clear hK
                  go_simp
                  exact HK.out _ _ hS (Fr.refl _ w') (by first | rfl | exact congrArg _ (rfl))
              case hend =>
                intro V w5 hf5 hV
                have h10 : V 10 = .int .u64 nv := hV 10 (by simp)
                have h11 : V 11 = .int .u8 0 := hV 11 (by simp)
                rw [h10, h11]
                clear hV h10 h11
                have cq := HCK.out _ hf5
                have HF5 := Lib.hid ((HFR.out.alloc _).trans hf5)
                clear hf5
                go_wp2_with fail
                rw [HOFF.out]
                refine (HONE.out _).mono ?_
                rintro e w6 ⟨rfl, hf6⟩
                have HF6 := Lib.hid (HF5.out.trans hf6)
                clear hf6 cq
                go_wp2_with fail
                go_roundw
                case rel =>
                  exact ⟨i + 1, by omega, by go_num, HF6.out.alloc _⟩
                case measure => simp [intOf]; omega
            · have hbk : ((i : Int) == (kk : Int)) = false := by simp; omega
              rw [if_neg hik] at hra
              obtain ⟨r, hone⟩ := one_num3 m pos 1 fk (4 + 2 * i) 0 _ hra HML.out.1 HML.out.2 (by omega)
              clear hra
              have hnb := fun w => NumBytes_calls fk fn w hnum
              have hna := fun w => numAt_list (numB fk fn) fk 0 w (by rw [numB_length]; have := numSize_le fk; omega) (by omega)
              rw [numAt_own2 fk fn hkp] at hna
              have HNB := Lib.hid hnb
              have HNA := Lib.hid hna
              have HCK : RowKit.Hid (∀ w', Fr0 (wr.alloc (.cells #[.bool true, .int .u8 fk, .int .u64 fn, .int .u8 fg] 29)) w' → w'.cell? ⟨wr.heap.size, 1, none⟩ = some (.int .u8 fk)) := Lib.hid (fun w' hf => (Fr.cell hf (p := ⟨wr.heap.size, 1, none⟩) (by simp) (fun x => x)).trans (by rw [cell_of (heap_alloc_new wr _)]; rfl))
              have HONE := Lib.hid hone
              clear hnb hna hone
              generalize le (numB fk fn) = nv at *
              unfold tupV at HNA
              go_wp2_with fail
              refine wp_region_rows2 (by kernel_rfl) [some 124, some 125, some 126, some 127, some 128, some 129, some 130, some 123, some 131, some 132, some 21, some 22] (fun w' => Fr0 (wr.alloc (.cells #[.bool true, .int .u8 fk, .int .u64 fn, .int .u8 fg] 29)) w') Fr0
                (PhiZ (fun i => none) (fun i => match i with | 0 => .pointer (some ⟨wr.heap.size, 1, none⟩) | 1 => .int .u8 fk | 2 => .int .u64 fn | 3 => .string (strOf (numB fk fn)) | 4 => .pointer (some ⟨wr.heap.size, 1, none⟩) | 5 => .int .u8 fk | 6 => .tuple #[.int .u64 nv, .int .u8 0] | 7 => .tuple #[.int .u64 nv, .int .u8 0] | 8 => .int .u64 nv | 9 => .int .u8 0 | 10 => .int .u64 nv | _ => .int .u8 0))
                rfl (by decide) (by kernel_rfl) _ (fun V => by simp only [putAll, Act.put, List.setIfInBounds_toArray, List.set_cons_zero, List.set_cons_succ]; rfl) (PhiZ_keep _ _) (by kernel_rfl) ((Fr.refl _ _).drew) ?hend ?hstep
              case hstep =>
                refine ⟨?_, ?_, ?_, ?_, ?_, ?_, ?_, ?_, ?_, ?_, ?_, ?_, trivial⟩
                · intro V w' hS hV K' hK
                  clear hV
                  simp only [Act.put, List.setIfInBounds_toArray, List.set_cons_zero, List.set_cons_succ] at hK
                  have HK := Lib.hid hK; clear hK
                  go_simp
                  exact HK.out _ _ hS (Fr.refl _ w') (by first | rfl | exact congrArg _ (rfl))
                · intro V w' hS hV K' hK
                  obtain ⟨h0, _⟩ := hV
                  have h0 : V 0 = .pointer (some ⟨wr.heap.size, 1, none⟩) := h0
                  simp only [Act.put, List.setIfInBounds_toArray, List.set_cons_zero, List.set_cons_succ, h0] at hK
                  have HK := Lib.hid hK; clear hK
                  have cq := HCK.out _ hS
                  go_simp
                  exact HK.out _ _ hS (Fr.refl _ w') (by first | rfl | exact congrArg _ (rfl))
                · intro V w' hS hV K' hK
                  clear hV
                  simp only [Act.put, List.setIfInBounds_toArray, List.set_cons_zero, List.set_cons_succ] at hK
                  have HK := Lib.hid hK; clear hK
                  go_simp
                  exact HK.out _ _ hS (Fr.refl _ w') (by first | rfl | exact congrArg _ (rfl))
                · intro V w' hS hV K' hK
                  obtain ⟨h1, h2, _⟩ := hV
                  have h1 : V 1 = .int .u8 fk := h1
                  have h2 : V 2 = .int .u64 fn := h2
                  simp only [Act.put, List.setIfInBounds_toArray, List.set_cons_zero, List.set_cons_succ, h1, h2] at hK
                  have HK := Lib.hid hK; clear hK
                  go_simp
                  refine (HNB.out w').mono ?_
                  rintro e w2 ⟨rfl, hf⟩
                  exact HK.out _ _ (hS.trans hf) hf rfl
                · intro V w' hS hV K' hK
                  clear hV
                  simp only [Act.put, List.setIfInBounds_toArray, List.set_cons_zero, List.set_cons_succ] at hK
                  have HK := Lib.hid hK; clear hK
                  go_simp
                  exact HK.out _ _ hS (Fr.refl _ w') (by first | rfl | exact congrArg _ (rfl))
                · intro V w' hS hV K' hK
                  obtain ⟨h4, _⟩ := hV
                  have h4 : V 4 = .pointer (some ⟨wr.heap.size, 1, none⟩) := h4
                  simp only [Act.put, List.setIfInBounds_toArray, List.set_cons_zero, List.set_cons_succ, h4] at hK
                  have HK := Lib.hid hK; clear hK
                  have cq := HCK.out _ hS
                  go_simp
                  exact HK.out _ _ hS (Fr.refl _ w') (by first | rfl | exact congrArg _ (rfl))
                · intro V w' hS hV K' hK
                  obtain ⟨h3, h5, _⟩ := hV
                  have h3 : V 3 = .string (strOf (numB fk fn)) := h3
                  have h5 : V 5 = .int .u8 fk := h5
                  simp only [Act.put, List.setIfInBounds_toArray, List.set_cons_zero, List.set_cons_succ, h3, h5] at hK
                  have HK := Lib.hid hK; clear hK
                  go_simp
                  refine (HNA.out w').mono ?_
                  rintro e w2 ⟨rfl, rfl⟩
                  have hf := Fr.refl (fun _ : Nat => False) w'
                  exact HK.out _ _ (hS.trans hf) hf rfl
                · intro V w' hS hV K' hK
                  obtain ⟨h6, _⟩ := hV
                  have h6 : V 6 = .tuple #[.int .u64 nv, .int .u8 0] := h6
                  simp only [Act.put, List.setIfInBounds_toArray, List.set_cons_zero, List.set_cons_succ, h6] at hK
                  have HK := Lib.hid hK; clear hK
                  go_simp
                  exact HK.out _ _ hS (Fr.refl _ w') (by first | rfl | exact congrArg _ (rfl))
                · intro V w' hS hV K' hK
                  obtain ⟨h7, _⟩ := hV
                  have h7 : V 7 = .tuple #[.int .u64 nv, .int .u8 0] := h7
                  simp only [Act.put, List.setIfInBounds_toArray, List.set_cons_zero, List.set_cons_succ, h7] at hK
                  have HK := Lib.hid hK; clear hK
                  go_simp
                  exact HK.out _ _ hS (Fr.refl _ w') (by first | rfl | exact congrArg _ (rfl))
                · intro V w' hS hV K' hK
                  obtain ⟨h7, _⟩ := hV
                  have h7 : V 7 = .tuple #[.int .u64 nv, .int .u8 0] := h7
                  simp only [Act.put, List.setIfInBounds_toArray, List.set_cons_zero, List.set_cons_succ, h7] at hK
                  have HK := Lib.hid hK; clear hK
                  go_simp
                  exact HK.out _ _ hS (Fr.refl _ w') (by first | rfl | exact congrArg _ (rfl))
                · intro V w' hS hV K' hK
                  obtain ⟨h8, _⟩ := hV
                  have h8 : V 8 = .int .u64 nv := h8
                  simp only [Act.put, List.setIfInBounds_toArray, List.set_cons_zero, List.set_cons_succ, h8] at hK
                  have HK := Lib.hid hK; clear hK
                  go_simp
                  exact HK.out _ _ hS (Fr.refl _ w') (by first | rfl | exact congrArg _ (rfl))
                · intro V w' hS hV K' hK
                  obtain ⟨h9, _⟩ := hV
                  have h9 : V 9 = .int .u8 0 := h9
                  simp only [Act.put, List.setIfInBounds_toArray, List.set_cons_zero, List.set_cons_succ, h9] at hK
                  have HK := Lib.hid hK; clear hK
                  go_simp
                  exact HK.out _ _ hS (Fr.refl _ w') (by first | rfl | exact congrArg _ (rfl))
              case hend =>
                intro V w5 hf5 hV
                have h10 : V 10 = .int .u64 nv := hV 10 (by simp)
                have h11 : V 11 = .int .u8 0 := hV 11 (by simp)
                rw [h10, h11]
                clear hV h10 h11
                have cq := HCK.out _ hf5
                have HF5 := Lib.hid ((HFR.out.alloc _).trans hf5)
                clear hf5
                go_wp2_with fail
                rw [HOFF.out]
                refine (HONE.out _).mono ?_
                rintro e w6 ⟨rfl, hf6⟩
                have HF6 := Lib.hid (HF5.out.trans hf6)
                clear hf6 cq
                go_wp2_with fail
                go_roundw
                case rel =>
                  exact ⟨i + 1, by omega, by go_num, HF6.out.alloc _⟩
                case measure => simp [intOf]; omega
        · go_wp2_with (go_at_call 9; refine (tableAwake_calls _).mono ?_; rintro e w' ⟨rfl, hf⟩)
          go_ret
          exact ⟨rfl, Fr0.below (HFR.out.trans hf)⟩
end Go.Proofs.YtjfgippolckaeaaGreat
