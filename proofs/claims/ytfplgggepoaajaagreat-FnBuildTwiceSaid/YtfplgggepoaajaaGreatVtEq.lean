/- vtableEqual: whether a vtable that is written has the fields of an object. -/
import Derived.Test.YtfplgggepoaajaaGreatStart
namespace Go.Proofs.YtfplgggepoaajaaGreat
open Go.RowKit
set_option linter.unusedVariables false
set_option linter.unusedSimpArgs false

/-- One field: x is written, f is where it is, o where the object is. -/
def vtEnt (o f x : Nat) : Bool := (decide (x = 0) && decide (f = 0)) || decide (x + f = o)
def vtSame (o : Nat) : List Nat → List UInt8 → Bool
  | [], [] => true
  | f :: r, x0 :: x1 :: d => vtEnt o f (x0.toNat + 256 * x1.toNat) && vtSame o r d
  | _, _ => false
theorem vtSame_len (o : Nat) : ∀ (a : List Nat) (d : List UInt8), vtSame o a d = true → a.length * 2 = d.length
  | [], [], _ => rfl
  | [], _ :: _, h => by simp [vtSame] at h
  | _ :: _, [], h => by simp [vtSame] at h
  | _ :: _, [_], h => by simp [vtSame] at h
  | f :: r, x0 :: x1 :: d, h => by
    simp only [vtSame, Bool.and_eq_true] at h
    have := vtSame_len o r d h.2
    simp only [List.length_cons]; omega
theorem vtSame_drop (o : Nat) : ∀ (a : List Nat) (d : List UInt8) (i : Nat), a.length * 2 = d.length → (hi : i < a.length) →
    vtSame o (a.drop i) (d.drop (i * 2)) = (vtEnt o a[i] (le ((d.drop (i * 2)).take 2)) && vtSame o (a.drop (i + 1)) (d.drop ((i + 1) * 2)))
  | f :: r, x0 :: x1 :: d, 0, h, _ => by
    simp [vtSame, le]
  | f :: r, x0 :: x1 :: d, i + 1, h, hi => by
    have := vtSame_drop o r d i (by simp only [List.length_cons] at h; omega) (by simpa using hi)
    rw [show (i + 1) * 2 = i * 2 + 2 by omega, show (i + 1 + 1) * 2 = (i + 1) * 2 + 2 by omega]
    simpa using this
  | [], _, _, _, hi => by simp at hi
  | _ :: _, [], _, h, _ => by simp at h
  | _ :: _, [_], _, h, _ => by simp only [List.length_cons, List.length_nil] at h; omega
theorem le2_lt (l : List UInt8) : le (l.take 2) < 65536 := by
  have := le_lt (l.take 2)
  have h2 : (l.take 2).length ≤ 2 := by simp; omega
  have : 2 ^ (8 * (l.take 2).length) ≤ 2 ^ 16 := Nat.pow_le_pow_right (by omega) (by omega)
  omega

set_option maxRecDepth 20000 in
set_option maxHeartbeats 4000000 in
theorem vtableEqual_calls (V ca Y off len cap o : Nat) (a : List Nat) (d : List UInt8) (w : World) (ha : ∀ i (h : i < a.length), w.cell? ⟨V, i, none⟩ = some (.int .u32 a[i])) (hal : ∀ x ∈ a, x ≤ 4000000) (han : a.length ≤ 100000) (ho : o ≤ 4000000)
    (hm : Mem w Y off d) (hd : d.length = len) (hc : len ≤ cap) :
    Calls Tryz.prog 121 #[.slice (some ⟨V, 0, none⟩) a.length ca, .int .u32 o, .slice (some ⟨Y, off, none⟩) len cap] w fun e w' => e = .returned (.bool (vtSame o a d)) ∧ w = w' := by
  obtain ⟨n, hn⟩ : ∃ n, n = a.length := ⟨_, rfl⟩
  rw [← hn] at han ⊢
  have HN := Lib.hid hn
  have HD := Lib.hid hd
  have HA := Lib.hid ha
  have HAL := Lib.hid hal
  have HM := Lib.hid hm
  by_cases he : n * 2 = len
  · obtain ⟨v, hv⟩ : ∃ v, v = vtSame o a d := ⟨_, rfl⟩
    rw [← hv]
    have HV := Lib.hid hv
    have HE := Lib.hid he
    have hq1 : ((n : Int) * 2 == (len : Int)) = true := by rw [beq_iff_eq]; omega
    have hq2 : ((n : Int) * 2 != (len : Int)) = false := by simp only [bne, hq1]; rfl
    clear hn hd ha hal hm hv he
    go_enter Tryz.func121, Tryz.ntmps121
    go_wp2_with fail
    go_loop [7] (fun iv => ∃ i : Nat, i ≤ n ∧ iv = .int .i64 i ∧ RowKit.Hid (v = vtSame o (a.drop i) (d.drop (i * 2)))) (fun iv => n - (intOf iv).toNat)
    case atStart => exact ⟨0, Nat.zero_le _, rfl, Lib.hid (by simpa using HV.out)⟩
    case round =>
      obtain ⟨i, hi1, rfl, hR⟩ := hrel
      by_cases hlt : i < n
      · have hla : i < a.length := by have := HN.out; omega
        have hvd := vtSame_drop o a d i (by have := HN.out; have := HE.out; have := HD.out; omega) hla
        rw [← hR.out] at hvd
        obtain ⟨f, hf⟩ : ∃ f, f = a[i] := ⟨_, rfl⟩
        have hfl : f ≤ 4000000 := by rw [hf]; exact HAL.out _ (List.getElem_mem hla)
        have cV : w.cell? ⟨V, i, none⟩ = some (.int .u32 f) := by rw [hf]; exact HA.out i hla
        have hsl := fun w' => run_slice_cut (P := Tryz.prog) Tryz.underlying49 sizeU8b Y off len cap .i64 .i64 ((i : Int) * 2) (((i : Int) + 1) * 2) (i * 2) ((i + 1) * 2) (by simp) (by simp) (by omega) (by have := HE.out; omega) w'
        rw [show (i + 1) * 2 - i * 2 = 2 by omega, sOff_lt (by have := HE.out; omega)] at hsl
        have HG := Lib.hid (GetVOffsetT_ok Y (off + i * 2) 2 (cap - i * 2) ((d.drop (i * 2)).take 2) w ((HM.out.drop (i * 2)).take 2) (by have := HE.out; have := HD.out; simp; omega) (by omega))
        rw [List.take_take, Nat.min_self] at HG
        obtain ⟨x, hx⟩ : ∃ x, x = le ((d.drop (i * 2)).take 2) := ⟨_, rfl⟩
        have hxl : x < 65536 := by rw [hx]; exact le2_lt _
        rw [← hx] at HG hvd
        rw [← hf] at hvd
        have HVD := Lib.hid hvd
        clear hvd hx hf hR hla
        have hent : (x = 0 ∧ f = 0) ∨ (¬ x = 0 ∧ x + f = o) ∨ (x = 0 ∧ ¬ f = 0 ∧ x + f = o) ∨ (¬ x = 0 ∧ ¬ x + f = o) ∨ (x = 0 ∧ ¬ f = 0 ∧ ¬ x + f = o) := by omega
        rcases hent with ⟨hx, hf⟩ | ⟨hx, ho2⟩ | ⟨hx, hf, ho2⟩ | ⟨hx, ho2⟩ | ⟨hx, hf, ho2⟩
        all_goals
          go_wp2_with fail
          refine HG.out.mono ?_
          rintro e w' ⟨rfl, rfl⟩
          go_wp2_with fail
        · go_round
          case rel => exact ⟨i + 1, by omega, by go_num, Lib.hid (by rw [HVD.out]; simp [vtEnt, hx, hf])⟩
          case measure => simp [intOf]; omega
        · go_round
          case rel => exact ⟨i + 1, by omega, by go_num, Lib.hid (by rw [HVD.out]; simp [vtEnt, ho2])⟩
          case measure => simp [intOf]; omega
        · go_round
          case rel => exact ⟨i + 1, by omega, by go_num, Lib.hid (by rw [HVD.out]; simp [vtEnt, ho2])⟩
          case measure => simp [intOf]; omega
        · go_ret
          exact ⟨by rw [HVD.out]; simp [vtEnt, ho2, hx], rfl⟩
        · go_ret
          exact ⟨by rw [HVD.out]; simp [vtEnt, ho2, hf], rfl⟩
      · obtain rfl : i = n := by omega
        have hv : v = true := by
          rw [hR.out, List.drop_of_length_le (by have := HN.out; omega), List.drop_of_length_le (by have := HE.out; have := HD.out; omega)]
          rfl
        have HVV := Lib.hid hv
        clear hv hR
        go_wp2_with fail
        go_ret
        exact ⟨by rw [HVV.out]; rfl, rfl⟩
  · have hv : vtSame o a d = false := by
      cases h : vtSame o a d with
      | false => rfl
      | true => exact absurd (vtSame_len o a d h) (by omega)
    rw [hv]
    have hq1 : ((n : Int) * 2 == (len : Int)) = false := by rw [beq_eq_false_iff_ne]; omega
    have hq2 : ((n : Int) * 2 != (len : Int)) = true := by simp only [bne, hq1]; rfl
    clear hn hd ha hal hm hv he
    go_enter Tryz.func121, Tryz.ntmps121
    go_wp2_with fail
    go_ret
    exact ⟨rfl, rfl⟩
end Go.Proofs.YtfplgggepoaajaaGreat
