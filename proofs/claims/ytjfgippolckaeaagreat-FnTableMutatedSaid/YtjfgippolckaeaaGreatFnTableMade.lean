/- FnTableMade: of a table that was made by the format each field is read. -/
import Derived.Test.YtjfgippolckaeaaGreatMakeTable
import Derived.Test.YtjfgippolckaeaaGreatMakeLaw2
import Derived.Test.YtjfgippolckaeaaGreatRootAs
import Derived.Test.YtjfgippolckaeaaGreatSpecTab3
namespace Go.Proofs.YtjfgippolckaeaaGreat
open Go.RowKit
set_option linter.unusedVariables false
set_option linter.unusedSimpArgs false

theorem one_ans (l : List UInt8) (pos : Nat) (st : Stp) (a : Ans) (m : List UInt8) (h : mAns l pos st.op st.k st.off st.num = (a, m)) (hl : l.length ≤ 1000000000) (hp : pos < 4294967296) (hn : st.num < 2 ^ 64) (w : World) :
    Calls Tryz.prog 10 #[.string (strOf l), .int .u32 pos, .agg (stepC st).toArray] w fun e w' => e = .returned (.tuple #[.agg (ansC a).toArray, .string (strOf m)]) ∧ Fr0 w w' := by
  have := tableOne_calls (strOf l) pos st w (by rw [strOf_size]; exact hl) hp hn
  rw [strOf_list, h] at this
  exact this
theorem one_num3 (l : List UInt8) (pos : Nat) (op k : Int) (off num m : Nat) (h : (mAns l pos op k off num).1 = Ans.ofNum m) (hl : l.length ≤ 1000000000) (hp : pos < 4294967296) (hn : num < 2 ^ 64) :
    ∃ r, ∀ w, Calls Tryz.prog 10 #[.string (strOf l), .int .u32 pos, .agg #[.int .u8 op, .int .u8 k, .int .u32 off, .int .u64 num]] w fun e w' =>
      e = .returned (.tuple #[.agg #[.int .u64 m, .string ⟨#[]⟩, .bool false, .bool false], .string r]) ∧ Fr0 w w' := by
  refine ⟨strOf (mAns l pos op k off num).2, fun w => (one_ans l pos ⟨op, k, off, num⟩ _ _ (Prod.ext h rfl) hl hp hn w).mono ?_⟩
  rintro e w' ⟨rfl, hf⟩
  exact ⟨rfl, hf⟩
theorem root_is {l : List UInt8} {pos : Nat} (h : mGet l 34 0 = some pos) (hl : l.length ≤ 1000000000) (w : World) :
    Calls Tryz.prog 18 #[.string (strOf l), .int .u32 0] w fun e w' => e = .returned (.tuple #[.int .u32 pos, .bool false]) ∧ Fr0 w w' := by
  obtain ⟨_, h2, h3⟩ := mGet_some h
  have h4 : numSize 34 = 4 := by decide
  have := RootAs_ok (strOf l) 0 w (by rw [strOf_size]; exact hl) (by rw [strOf_size]; omega)
  rw [strOf_list] at this
  have hlt := mGet_lt h
  rw [h4] at h3 hlt
  rw [← h3] at this
  have e : IntKind.u32.wrap (((pos : Nat) : Int) + ((0 : Nat) : Int)) = pos := by rw [IntKind.wrap_u32]; omega
  refine this.mono ?_
  rintro e' w' ⟨rfl, hf⟩
  exact ⟨by rw [e], hf⟩
theorem all_none {sl : List Nat} {n more i : Nat} (h : sl.length = n) (hi : n ≤ i) : (sl ++ List.replicate more 0).getD i 0 = 0 := by
  rw [List.getD_eq_getElem?_getD, List.getElem?_append_right (by omega), List.getElem?_replicate]
  split <;> rfl
theorem all_get {sl : List Nat} {n more i : Nat} (h : sl.length = n) (hi : i < n) : (sl ++ List.replicate more 0).getD i 0 = sl.getD i 0 := by
  rw [List.getD_eq_getElem?_getD, List.getElem?_append_left (by omega), List.getD_eq_getElem?_getD]

set_option maxRecDepth 20000 in
set_option maxHeartbeats 16000000 in
theorem FnTableMade_walk (ao : Option Addr) (n cap : Nat) (fs : List Fld) (more : Int) (behind : Bool) (slot de : Int) (w1 : (Lit.int .u8 more).wf = true) (w3 : (Lit.int .u16 slot).wf = true) (w4 : (Lit.int .u64 de).wf = true) (w : World)
    (w0 : RowAt w (.slice ao n cap) n (fs.flatMap fldC)) (hlen : fs.length = n) (hcap : n ≤ cap) (hok : ∀ x ∈ fs, FldOk x) :
    Calls Tryz.prog 7 #[.slice ao n cap, .int .u8 more, .bool behind, .int .u16 slot, .int .u64 de] w fun e w' => e = .returned (.bool true) ∧ Below w.heap.size w w' := by
  obtain ⟨mo, rfl, hmo⟩ : ∃ n : Nat, more = n ∧ n < 256 := by
    have := bounds_u8 w1
    exact ⟨more.toNat, by omega, by omega⟩
  obtain ⟨s, rfl, hs⟩ : ∃ n : Nat, slot = n ∧ n < 65536 := by
    have := bounds_u16 w3
    exact ⟨slot.toNat, by omega, by omega⟩
  obtain ⟨d, rfl, hd⟩ : ∃ n : Nat, de = n ∧ n < 2 ^ 64 := by
    have := bounds_u64 w4
    exact ⟨de.toNat, by omega, by omega⟩
  clear w1 w3 w4
  have HW := Lib.hid w0
  have HOK := Lib.hid hok
  have HN := Lib.hid hlen
  have HD := Lib.hid hd
  clear w0 hok hlen hcap
  by_cases h1 : 2147483647 < n
  · go_enter Tryz.func7, Tryz.ntmps7
    go_wp2_with fail
    go_ret
    exact ⟨rfl, Below.refl _ _⟩
  have HMK := Lib.hid (MakeTable_calls ao n cap fs mo behind w HW.out HN.out HOK.out (by omega) hmo)
  cases hmk : mkTable fs mo behind with
  | none =>
    rw [hmk] at HMK
    unfold mkV at HMK
    clear hmk
    go_enter Tryz.func7, Tryz.ntmps7
    go_wp2_with fail
    refine HMK.out.mono ?_
    rintro e w2 ⟨rfl, hf2⟩
    go_wp2_with (go_at_call 9; refine (tableAwake_calls _).mono ?_; rintro e w' ⟨rfl, hf⟩)
    go_ret
    exact ⟨rfl, Fr0.below (hf2.trans hf)⟩
  | some x =>
    obtain ⟨l, pos⟩ := x
    rw [hmk] at HMK
    unfold mkV at HMK
    by_cases h2 : 40 < n
    · clear hmk
      go_enter Tryz.func7, Tryz.ntmps7
      go_wp2_with fail
      refine HMK.out.mono ?_
      rintro e w2 ⟨rfl, hf2⟩
      go_wp2_with (go_at_call 9; refine (tableAwake_calls _).mono ?_; rintro e w' ⟨rfl, hf⟩)
      go_ret
      exact ⟨rfl, Fr0.below (hf2.trans hf)⟩
    obtain ⟨vt, B, sl, hL, hB⟩ := lay_of hmk
    have hsll : sl.length = n := by rw [hB.len]; exact HN.out
    have hll := hL.llen
    have hpl := hL.plow
    have HL := Lib.hid hL
    have HB := Lib.hid hB
    have HSL := Lib.hid hsll
    have HR := Lib.hid (fun w => root_is hL.root (by omega) w)
    have HLL := Lib.hid (show l.length ≤ 1000000000 ∧ pos < 4294967296 by omega)
    clear hL hB hsll hmk hpl
    go_enter Tryz.func7, Tryz.ntmps7
    go_wp2_with fail
    refine HMK.out.mono ?_
    rintro e w2 ⟨rfl, hf2⟩
    have HF2 := Lib.hid hf2
    clear hf2
    go_wp2_with fail
    refine (HR.out _).mono ?_
    rintro e w3 ⟨rfl, hf3⟩
    have HF3 := Lib.hid (HF2.out.trans hf3)
    clear hf3
    go_wp2_with fail
    go_loopw [58] (fun iv wr => ∃ i : Nat, i ≤ n ∧ iv = .int .i64 i ∧ Fr0 w wr) (fun iv _ => n - (intOf iv).toNat)
    case atStart => exact ⟨0, Nat.zero_le _, rfl, HF3.out⟩
    case round =>
      obtain ⟨i, hi1, rfl, hfr⟩ := hrel
      have HFR := Lib.hid hfr
      by_cases hlt : i < n
      · have hil : i < fs.length := by have := HN.out; omega
        have hrw := HW.out.fr hfr
        rw [← HN.out] at hrw
        obtain ⟨g, o, cap', hv, hgl, hcs⟩ := row_cells (f := fldC) (fun _ => rfl) hrw hil
        injection hv with hv1 hv2 hv3
        subst hv1 hv3
        have hso := HOK.out _ (List.getElem_mem hil)
        have hat := HB.out.at_ i hil
        have hno := HB.out.no i hil
        have hag : (sl ++ List.replicate mo 0).getD i 0 = sl.getD i 0 := all_get HSL.out hlt
        rw [← hag] at hat hno
        clear hv2 hrw hag
        generalize fs[i] = f at *
        have s0 : wr.cell? ⟨g, o + i * 4, none⟩ = some (.bool f.has) := hcs 0 _ rfl
        have s1 : wr.cell? ⟨g, o + i * 4 + 1, none⟩ = some (.int .u8 f.k) := hcs 1 _ rfl
        have s2 : wr.cell? ⟨g, o + i * 4 + 2, none⟩ = some (.int .u64 f.num) := hcs 2 _ rfl
        have s3 : wr.cell? ⟨g, o + i * 4 + 3, none⟩ = some (.int .u8 f.gap) := hcs 3 _ rfl
        obtain ⟨fh, fk, fn, fg⟩ := f
        dsimp only at s0 s1 s2 s3 hat hno
        have hnum : fn < 2 ^ 64 := hso.2.1
        have hoff : (4 : Int) + 2 * (i : Int) = ((4 + 2 * i : Nat) : Int) := by omega
        have HOFF := Lib.hid hoff
        clear hcs hso hfr hoff
        cases fh with
        | true =>
          obtain ⟨a1, a2, a3, a4⟩ := hat rfl
          have hra := read_has HL.out i fk fn d a1 a2 a3 a4 (by omega)
          obtain ⟨r, hone⟩ := one_num3 l pos 1 fk (4 + 2 * i) d _ hra HLL.out.1 HLL.out.2 HD.out
          have hkp : 0 < numSize fk := Nat.pos_of_ne_zero a1.1
          clear hra a1 a2 a3 a4 hat hno
          have hnb := fun w => NumBytes_calls fk fn w hnum
          have hna := fun w => numAt_list (numB fk fn) fk 0 w (by rw [numB_length]; have := numSize_le fk; omega) (by omega)
          rw [numAt_own2 fk fn hkp] at hna
          have HNB := Lib.hid hnb
          have HNA := Lib.hid hna
          clear hnb hna
          have HCK : RowKit.Hid (∀ w', Fr0 (wr.alloc (.cells #[.bool true, .int .u8 fk, .int .u64 fn, .int .u8 fg] 29)) w' → w'.cell? ⟨wr.heap.size, 1, none⟩ = some (.int .u8 fk)) := Lib.hid (fun w' hf => (Fr.cell hf (p := ⟨wr.heap.size, 1, none⟩) (by simp) (fun x => x)).trans (by rw [cell_of (heap_alloc_new wr _)]; rfl))
          generalize le (numB fk fn) = nv at *
          unfold tupV at HNA
          go_wp2_with fail
          refine wp_region_rows2 (by kernel_rfl) [some 74, some 75, some 76, some 77, some 78, some 79, some 80, some 73, some 81, some 82, some 19, some 20] (fun w' => Fr0 (wr.alloc (.cells #[.bool true, .int .u8 fk, .int .u64 fn, .int .u8 fg] 29)) w') Fr0
            (PhiZ (fun i => none) (fun i => match i with | 0 => .pointer (some ⟨wr.heap.size, 1, none⟩) | 1 => .int .u8 fk | 2 => .int .u64 fn | 3 => .string (strOf (numB fk fn)) | 4 => .pointer (some ⟨wr.heap.size, 1, none⟩) | 5 => .int .u8 fk | 6 => .tuple #[.int .u64 nv, .int .u8 0] | 7 => .tuple #[.int .u64 nv, .int .u8 0] | 8 => .int .u64 nv | 9 => .int .u8 0 | 10 => .int .u64 nv | _ => .int .u8 0))
            rfl (by decide) (by kernel_rfl) _ (fun V => by simp only [putAll, Act.put, List.setIfInBounds_toArray, List.set_cons_zero, List.set_cons_succ]; rfl) (PhiZ_keep _ _) (by kernel_rfl) ((Fr.refl _ _).drew) ?hend ?hstep
          case hstep =>
            refine ⟨?_, ?_, ?_, ?_, ?_, ?_, ?_, ?_, ?_, ?_, ?_, ?_, trivial⟩
            · intro V w' hS hV K' hK
              clear hV
              simp only [Act.put, List.setIfInBounds_toArray, List.set_cons_zero, List.set_cons_succ] at hK
              have HK := Lib.hid hK; clear hK
              go_simp
              exact HK.out _ _ hS (Fr.refl _ w') (by first | rfl | exact congrArg _ (rfl))
            · intro V w' hS hV K' hK
              obtain ⟨h0, _⟩ := hV
              have h0 : V 0 = .pointer (some ⟨wr.heap.size, 1, none⟩) := h0
              simp only [Act.put, List.setIfInBounds_toArray, List.set_cons_zero, List.set_cons_succ, h0] at hK
              have HK := Lib.hid hK; clear hK
              have cq := HCK.out _ hS
              go_simp
              exact HK.out _ _ hS (Fr.refl _ w') (by first | rfl | exact congrArg _ (rfl))
            · intro V w' hS hV K' hK
              clear hV
              simp only [Act.put, List.setIfInBounds_toArray, List.set_cons_zero, List.set_cons_succ] at hK
              have HK := Lib.hid hK; clear hK
              go_simp
              exact HK.out _ _ hS (Fr.refl _ w') (by first | rfl | exact congrArg _ (rfl))
            · intro V w' hS hV K' hK
              obtain ⟨h1, h2, _⟩ := hV
              have h1 : V 1 = .int .u8 fk := h1
              have h2 : V 2 = .int .u64 fn := h2
              simp only [Act.put, List.setIfInBounds_toArray, List.set_cons_zero, List.set_cons_succ, h1, h2] at hK
              have HK := Lib.hid hK; clear hK
              go_simp
              refine (HNB.out w').mono ?_
              rintro e w2 ⟨rfl, hf⟩
              exact HK.out _ _ (hS.trans hf) hf rfl
            · intro V w' hS hV K' hK
              clear hV
              simp only [Act.put, List.setIfInBounds_toArray, List.set_cons_zero, List.set_cons_succ] at hK
              have HK := Lib.hid hK; clear hK
              go_simp
              exact HK.out _ _ hS (Fr.refl _ w') (by first | rfl | exact congrArg _ (rfl))
            · intro V w' hS hV K' hK
              obtain ⟨h4, _⟩ := hV
              have h4 : V 4 = .pointer (some ⟨wr.heap.size, 1, none⟩) := h4
              simp only [Act.put, List.setIfInBounds_toArray, List.set_cons_zero, List.set_cons_succ, h4] at hK
              have HK := Lib.hid hK; clear hK
              have cq := HCK.out _ hS
              go_simp
              exact HK.out _ _ hS (Fr.refl _ w') (by first | rfl | exact congrArg _ (rfl))
            · intro V w' hS hV K' hK
              obtain ⟨h3, h5, _⟩ := hV
              have h3 : V 3 = .string (strOf (numB fk fn)) := h3
              have h5 : V 5 = .int .u8 fk := h5
              simp only [Act.put, List.setIfInBounds_toArray, List.set_cons_zero, List.set_cons_succ, h3, h5] at hK
              have HK := Lib.hid hK; clear hK
              go_simp
              refine (HNA.out w').mono ?_
              rintro e w2 ⟨rfl, rfl⟩
              have hf := Fr.refl (fun _ : Nat => False) w'
              exact HK.out _ _ (hS.trans hf) hf rfl
            · intro V w' hS hV K' hK
              obtain ⟨h6, _⟩ := hV
              have h6 : V 6 = .tuple #[.int .u64 nv, .int .u8 0] := h6
              simp only [Act.put, List.setIfInBounds_toArray, List.set_cons_zero, List.set_cons_succ, h6] at hK
              have HK := Lib.hid hK; clear hK
              go_simp
              exact HK.out _ _ hS (Fr.refl _ w') (by first | rfl | exact congrArg _ (rfl))
            · intro V w' hS hV K' hK
              obtain ⟨h7, _⟩ := hV
              have h7 : V 7 = .tuple #[.int .u64 nv, .int .u8 0] := h7
              simp only [Act.put, List.setIfInBounds_toArray, List.set_cons_zero, List.set_cons_succ, h7] at hK
              have HK := Lib.hid hK; clear hK
              go_simp
              exact HK.out _ _ hS (Fr.refl _ w') (by first | rfl | exact congrArg _ (rfl))
            · intro V w' hS hV K' hK
              obtain ⟨h7, _⟩ := hV
              have h7 : V 7 = .tuple #[.int .u64 nv, .int .u8 0] := h7
              simp only [Act.put, List.setIfInBounds_toArray, List.set_cons_zero, List.set_cons_succ, h7] at hK
              have HK := Lib.hid hK; clear hK
              go_simp
              exact HK.out _ _ hS (Fr.refl _ w') (by first | rfl | exact congrArg _ (rfl))
            · intro V w' hS hV K' hK
              obtain ⟨h8, _⟩ := hV
              have h8 : V 8 = .int .u64 nv := h8
              simp only [Act.put, List.setIfInBounds_toArray, List.set_cons_zero, List.set_cons_succ, h8] at hK
              have HK := Lib.hid hK; clear hK
              go_simp
              exact HK.out _ _ hS (Fr.refl _ w') (by first | rfl | exact congrArg _ (rfl))
            · intro V w' hS hV K' hK
              obtain ⟨h9, _⟩ := hV
              have h9 : V 9 = .int .u8 0 := h9
              simp only [Act.put, List.setIfInBounds_toArray, List.set_cons_zero, List.set_cons_succ, h9] at hK
              have HK := Lib.hid hK; clear hK
              go_simp
              exact HK.out _ _ hS (Fr.refl _ w') (by first | rfl | exact congrArg _ (rfl))
          case hend =>
            intro V w5 hf5 hV
            have h10 : V 10 = .int .u64 nv := hV 10 (by simp)
            have h11 : V 11 = .int .u8 0 := hV 11 (by simp)
            rw [h10, h11]
            clear hV h10 h11
            have cq := HCK.out _ hf5
            have HF5 := Lib.hid ((HFR.out.alloc _).trans hf5)
            have HONE := Lib.hid hone
            clear hf5 hone
            go_wp2_with fail
            rw [HOFF.out]
            refine (HONE.out _).mono ?_
            rintro e w6 ⟨rfl, hf6⟩
            have HF6 := Lib.hid (HF5.out.trans hf6)
            clear hf6 cq
            go_wp2_with fail
            go_roundw
            case rel =>
              exact ⟨i + 1, by omega, by go_num, HF6.out.alloc _⟩
            case measure => simp [intOf]; omega
        | false =>
          have hra := read_no HL.out i d (hno rfl) HD.out (by omega)
          have hkp : 0 < numSize 7 := by decide
          have hdv : le (numB 7 d) = d := by rw [defVal_eq]; unfold defVal; rw [if_neg (by decide)]; exact Nat.mod_eq_of_lt HD.out
          obtain ⟨r, hone⟩ := one_num3 l pos 1 7 (4 + 2 * i) d (le (numB 7 d)) (by rw [hdv]; exact hra) HLL.out.1 HLL.out.2 HD.out
          clear hra hat hno hdv
          have hnb := fun w => NumBytes_calls 7 d w HD.out
          have hna := fun w => numAt_list (numB 7 d) 7 0 w (by rw [numB_length]; have := numSize_le 7; omega) (by omega)
          rw [numAt_own2 7 d hkp] at hna
          have HNB := Lib.hid hnb
          have HNA := Lib.hid hna
          clear hnb hna
          have HCK : RowKit.Hid (∀ w', Fr0 (wr.alloc (.cells #[.bool false, .int .u8 7, .int .u64 fn, .int .u8 fg] 29)) w' → w'.cell? ⟨wr.heap.size, 1, none⟩ = some (.int .u8 7)) := Lib.hid (fun w' hf => (Fr.cell hf (p := ⟨wr.heap.size, 1, none⟩) (by simp) (fun x => x)).trans (by rw [cell_of (heap_alloc_new wr _)]; rfl))
          generalize le (numB 7 d) = nv at *
          unfold tupV at HNA
          go_wp2_with fail
          refine wp_region_rows2 (by kernel_rfl) [some 74, some 75, some 76, some 77, some 78, some 79, some 80, some 73, some 81, some 82, some 19, some 20] (fun w' => Fr0 (wr.alloc (.cells #[.bool false, .int .u8 7, .int .u64 fn, .int .u8 fg] 29)) w') Fr0
            (PhiZ (fun i => none) (fun i => match i with | 0 => .pointer (some ⟨wr.heap.size, 1, none⟩) | 1 => .int .u8 7 | 2 => .int .u64 d | 3 => .string (strOf (numB 7 d)) | 4 => .pointer (some ⟨wr.heap.size, 1, none⟩) | 5 => .int .u8 7 | 6 => .tuple #[.int .u64 nv, .int .u8 0] | 7 => .tuple #[.int .u64 nv, .int .u8 0] | 8 => .int .u64 nv | 9 => .int .u8 0 | 10 => .int .u64 nv | _ => .int .u8 0))
            rfl (by decide) (by kernel_rfl) _ (fun V => by simp only [putAll, Act.put, List.setIfInBounds_toArray, List.set_cons_zero, List.set_cons_succ]; rfl) (PhiZ_keep _ _) (by kernel_rfl) ((Fr.refl _ _).drew) ?hend ?hstep
          case hstep =>
            refine ⟨?_, ?_, ?_, ?_, ?_, ?_, ?_, ?_, ?_, ?_, ?_, ?_, trivial⟩
            · intro V w' hS hV K' hK
              clear hV
              simp only [Act.put, List.setIfInBounds_toArray, List.set_cons_zero, List.set_cons_succ] at hK
              have HK := Lib.hid hK; clear hK
              go_simp
              exact HK.out _ _ hS (Fr.refl _ w') (by first | rfl | exact congrArg _ (rfl))
            · intro V w' hS hV K' hK
              obtain ⟨h0, _⟩ := hV
              have h0 : V 0 = .pointer (some ⟨wr.heap.size, 1, none⟩) := h0
              simp only [Act.put, List.setIfInBounds_toArray, List.set_cons_zero, List.set_cons_succ, h0] at hK
              have HK := Lib.hid hK; clear hK
              have cq := HCK.out _ hS
              go_simp
              exact HK.out _ _ hS (Fr.refl _ w') (by first | rfl | exact congrArg _ (rfl))
            · intro V w' hS hV K' hK
              clear hV
              simp only [Act.put, List.setIfInBounds_toArray, List.set_cons_zero, List.set_cons_succ] at hK
              have HK := Lib.hid hK; clear hK
              go_simp
              exact HK.out _ _ hS (Fr.refl _ w') (by first | rfl | exact congrArg _ (rfl))
            · intro V w' hS hV K' hK
              obtain ⟨h1, h2, _⟩ := hV
              have h1 : V 1 = .int .u8 7 := h1
              have h2 : V 2 = .int .u64 d := h2
              simp only [Act.put, List.setIfInBounds_toArray, List.set_cons_zero, List.set_cons_succ, h1, h2] at hK
              have HK := Lib.hid hK; clear hK
              go_simp
              refine (HNB.out w').mono ?_
              rintro e w2 ⟨rfl, hf⟩
              exact HK.out _ _ (hS.trans hf) hf rfl
            · intro V w' hS hV K' hK
              clear hV
              simp only [Act.put, List.setIfInBounds_toArray, List.set_cons_zero, List.set_cons_succ] at hK
              have HK := Lib.hid hK; clear hK
              go_simp
              exact HK.out _ _ hS (Fr.refl _ w') (by first | rfl | exact congrArg _ (rfl))
            · intro V w' hS hV K' hK
              obtain ⟨h4, _⟩ := hV
              have h4 : V 4 = .pointer (some ⟨wr.heap.size, 1, none⟩) := h4
              simp only [Act.put, List.setIfInBounds_toArray, List.set_cons_zero, List.set_cons_succ, h4] at hK
              have HK := Lib.hid hK; clear hK
              have cq := HCK.out _ hS
              go_simp
              exact HK.out _ _ hS (Fr.refl _ w') (by first | rfl | exact congrArg _ (rfl))
            · intro V w' hS hV K' hK
              obtain ⟨h3, h5, _⟩ := hV
              have h3 : V 3 = .string (strOf (numB 7 d)) := h3
              have h5 : V 5 = .int .u8 7 := h5
              simp only [Act.put, List.setIfInBounds_toArray, List.set_cons_zero, List.set_cons_succ, h3, h5] at hK
              have HK := Lib.hid hK; clear hK
              go_simp
              refine (HNA.out w').mono ?_
              rintro e w2 ⟨rfl, rfl⟩
              have hf := Fr.refl (fun _ : Nat => False) w'
              exact HK.out _ _ (hS.trans hf) hf rfl
            · intro V w' hS hV K' hK
              obtain ⟨h6, _⟩ := hV
              have h6 : V 6 = .tuple #[.int .u64 nv, .int .u8 0] := h6
              simp only [Act.put, List.setIfInBounds_toArray, List.set_cons_zero, List.set_cons_succ, h6] at hK
              have HK := Lib.hid hK; clear hK
              go_simp
              exact HK.out _ _ hS (Fr.refl _ w') (by first | rfl | exact congrArg _ (rfl))
            · intro V w' hS hV K' hK
              obtain ⟨h7, _⟩ := hV
              have h7 : V 7 = .tuple #[.int .u64 nv, .int .u8 0] := h7
              simp only [Act.put, List.setIfInBounds_toArray, List.set_cons_zero, List.set_cons_succ, h7] at hK
              have HK := Lib.hid hK; clear hK
              go_simp
              exact HK.out _ _ hS (Fr.refl _ w') (by first | rfl | exact congrArg _ (rfl))
            · intro V w' hS hV K' hK
              obtain ⟨h7, _⟩ := hV
              have h7 : V 7 = .tuple #[.int .u64 nv, .int .u8 0] := h7
              simp only [Act.put, List.setIfInBounds_toArray, List.set_cons_zero, List.set_cons_succ, h7] at hK
              have HK := Lib.hid hK; clear hK
              go_simp
              exact HK.out _ _ hS (Fr.refl _ w') (by first | rfl | exact congrArg _ (rfl))
            · intro V w' hS hV K' hK
              obtain ⟨h8, _⟩ := hV
              have h8 : V 8 = .int .u64 nv := h8
              simp only [Act.put, List.setIfInBounds_toArray, List.set_cons_zero, List.set_cons_succ, h8] at hK
              have HK := Lib.hid hK; clear hK
              go_simp
              exact HK.out _ _ hS (Fr.refl _ w') (by first | rfl | exact congrArg _ (rfl))
            · intro V w' hS hV K' hK
              obtain ⟨h9, _⟩ := hV
              have h9 : V 9 = .int .u8 0 := h9
              simp only [Act.put, List.setIfInBounds_toArray, List.set_cons_zero, List.set_cons_succ, h9] at hK
              have HK := Lib.hid hK; clear hK
              go_simp
              exact HK.out _ _ hS (Fr.refl _ w') (by first | rfl | exact congrArg _ (rfl))
          case hend =>
            intro V w5 hf5 hV
            have h10 : V 10 = .int .u64 nv := hV 10 (by simp)
            have h11 : V 11 = .int .u8 0 := hV 11 (by simp)
            rw [h10, h11]
            clear hV h10 h11
            have cq := HCK.out _ hf5
            have HF5 := Lib.hid ((HFR.out.alloc _).trans hf5)
            have HONE := Lib.hid hone
            clear hf5 hone
            go_wp2_with fail
            rw [HOFF.out]
            refine (HONE.out _).mono ?_
            rintro e w6 ⟨rfl, hf6⟩
            have HF6 := Lib.hid (HF5.out.trans hf6)
            clear hf6 cq
            go_wp2_with fail
            go_roundw
            case rel =>
              exact ⟨i + 1, by omega, by go_num, HF6.out.alloc _⟩
            case measure => simp [intOf]; omega
      · obtain rfl : i = n := by omega
        have hbe : ∃ q : Nat, q = i + s % 30000 := ⟨_, rfl⟩
        obtain ⟨q, hq⟩ := hbe
        have hra := read_no HL.out q d (all_none HSL.out (by omega)) HD.out (by omega)
        obtain ⟨r, hone⟩ := one_num3 l pos 1 7 (4 + 2 * q) d _ hra HLL.out.1 HLL.out.2 HD.out
        have HONE := Lib.hid hone
        have hoff : (4 : Int) + 2 * (i : Int) + (s : Int) % 30000 * 2 = ((4 + 2 * q : Nat) : Int) := by omega
        have HOFF := Lib.hid hoff
        clear hra hone hoff hfr
        go_wp2_with fail
        rw [HOFF.out]
        refine (HONE.out _).mono ?_
        rintro e w5 ⟨rfl, hf5⟩
        have hne := Lib.hid (HFR.out.trans hf5)
        clear hf5
        go_wp2_with (go_at_call 9; refine (tableAwake_calls _).mono ?_; rintro e w' ⟨rfl, hf⟩)
        go_ret
        exact ⟨rfl, Fr0.below ((hne.out.alloc _).trans hf)⟩
end Go.Proofs.YtjfgippolckaeaaGreat
