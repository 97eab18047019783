/- The package's Get.. of a byte slice: the number that the first bytes make, and Go's panic where there are too few. -/
import Derived.Test.YtfplgggepoaajaaGreatProg
import Derived.Test.YtfplgggepoaajaaGreatBase
import Derived.Test.YtfplgggepoaajaaGreatLaws
import Derived.Laws.ShiftsVar
import Derived.Laws.Externs
namespace Go.Proofs.YtfplgggepoaajaaGreat
open Go.RowKit
set_option linter.unusedVariables false
set_option linter.unusedSimpArgs false

theorem ret_int {k : IntKind} {a b : Int} (h : a = b) : Ending.returned (.int k a) = .returned (.int k b) := by rw [h]

set_option maxHeartbeats 1000000 in
theorem GetUint16_ok (b off len cap : Nat) (l : List UInt8) (w : World) (hm : Mem w b off l) (hlen : l.length = len) (hs : 2 ≤ len) :
    Calls Tryz.prog 138 #[.slice (some ⟨b, off, none⟩) len cap] w fun e w' => e = .returned (.int .u16 ((le (l.take 2) : Nat))) ∧ w = w' := by
  obtain ⟨x0, l1, rfl⟩ : ∃ x r, l = x :: r := by cases l with | nil => (simp at hlen; omega) | cons x r => exact ⟨x, r, rfl⟩
  obtain ⟨x1, l2, rfl⟩ : ∃ x r, l1 = x :: r := by cases l1 with | nil => (simp at hlen; omega) | cons x r => exact ⟨x, r, rfl⟩
  have c0 : w.cell? ⟨b, off, none⟩ = some (.int .u8 (x0.toNat : Int)) := hm 0 x0 rfl
  have b0 : (x0.toNat : Int) ≤ 255 := by have := x0.toNat_lt; omega
  have c1 : w.cell? ⟨b, off + 1, none⟩ = some (.int .u8 (x1.toNat : Int)) := hm 1 x1 rfl
  have b1 : (x1.toNat : Int) ≤ 255 := by have := x1.toNat_lt; omega
  have hfin : le (([x0, x1] ++ l2).take 2) = le [x0, x1] := by simp
  have HF := Lib.hid hfin; clear hfin hm hlen
  go_enter Tryz.func138, Tryz.ntmps138
  go_wp2
  go_ret
  refine ⟨ret_int ?_, rfl⟩
  refine Eq.trans ?_ (congrArg Int.ofNat HF.out).symm
  show _ = ((le [x0, x1] : Nat) : Int)
  have h := or2 .u16 x0 x1
  rw [← le2] at h
  have hb := le_lt [x0, x1]
  simp only [List.length_cons, List.length_nil] at hb
  have hw : IntKind.u16.wrap ((le [x0, x1] : Nat) : Int) = le [x0, x1] := IntWalk.u16_in _ (by omega)
  rw [hw] at h
  rw [← or_zero] at h
  refine Eq.trans ?_ h
  rfl

theorem GetUint16_dies (a : Option Addr) (len cap : Nat) (w : World) (hnil : a = none → len = 0) (hs : len < 2) :
    Calls Tryz.prog 138 #[.slice a len cap] w (Dies w) := by
  obtain ⟨u, v, n, hrun⟩ := run_index_out (P := Tryz.prog) w 49 a len cap .i64 1 Tryz.underlying49 hnil (.inr (by omega))
  clear hnil hs
  go_enter Tryz.func138, Tryz.ntmps138
  go_wp2
  exact ⟨rfl, ⟨u, v, rfl⟩, n, rfl⟩

theorem run_f32bits (n : Nat) (w : World) : (callFunc 140 #[.float .f32 n]).run Tryz.prog w = .ok (.value (.int .u32 n)) w := by kernel_rfl
theorem run_f64bits (n : Nat) (w : World) : (callFunc 141 #[.float .f64 n]).run Tryz.prog w = .ok (.value (.int .u64 n)) w := by kernel_rfl
theorem run_f32from (n : Int) (w : World) : (callFunc 88 #[.int .u32 n]).run Tryz.prog w = .ok (.value (.float .f32 n.toNat)) w := by kernel_rfl
theorem run_f64from (n : Int) (w : World) : (callFunc 90 #[.int .u64 n]).run Tryz.prog w = .ok (.value (.float .f64 n.toNat)) w := by kernel_rfl


theorem GetVOffsetT_ok (b off len cap : Nat) (l : List UInt8) (w : World) (hm : Mem w b off l) (hlen : l.length = len) (hs : 2 ≤ len) :
    Calls Tryz.prog 120 #[.slice (some ⟨b, off, none⟩) len cap] w fun e w' => e = .returned (.int .u16 ((le (l.take 2) : Nat))) ∧ w = w' := by
  have HC := Lib.hid (GetUint16_ok b off len cap l w hm hlen hs)
  clear hm hlen hs
  go_enter Tryz.func120, Tryz.ntmps120
  go_wp2_with (go_at_call 138; refine HC.out.mono ?_; rintro e w' ⟨rfl, rfl⟩)
  go_ret
  exact ⟨rfl, rfl⟩
theorem GetVOffsetT_dies (a : Option Addr) (len cap : Nat) (w : World) (hnil : a = none → len = 0) (hs : len < 2) :
    Calls Tryz.prog 120 #[.slice a len cap] w (Dies w) := by
  have HC := Lib.hid (GetUint16_dies a len cap w hnil hs)
  clear hnil hs
  go_enter Tryz.func120, Tryz.ntmps120
  go_wp2_with (go_at_call 138; refine HC.out.mono ?_; rintro e w' ⟨⟨u, v, rfl⟩, n, rfl⟩)
  exact ⟨rfl, ⟨u, v, rfl⟩, n, rfl⟩

theorem u32_of_i32 (n : Nat) (h : n < 2 ^ 32) : IntKind.u32.wrap (IntKind.i32.wrap (n : Int)) = n := by
  rw [wrap_congr .u32 (wrap_emod .i32 n)]
  exact IntWalk.u32_in _ (by omega)
theorem le_take_lt (l : List UInt8) (k : Nat) : le (l.take k) < 2 ^ (8 * k) := by
  refine Nat.lt_of_lt_of_le (le_lt _) (Nat.pow_le_pow_right (by omega) ?_)
  simp; omega
end Go.Proofs.YtfplgggepoaajaaGreat
