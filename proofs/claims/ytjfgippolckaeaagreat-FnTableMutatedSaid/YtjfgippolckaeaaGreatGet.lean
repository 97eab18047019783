/- The package's Get.. of a byte slice: the number that the first bytes make, and Go's panic where there are too few. -/
import Derived.Test.YtjfgippolckaeaaGreatProg
import Derived.Test.YtjfgippolckaeaaGreatBase
import Derived.Test.YtjfgippolckaeaaGreatLaws
import Derived.Laws.ShiftsVar
import Derived.Laws.Externs
namespace Go.Proofs.YtjfgippolckaeaaGreat
open Go.RowKit
set_option linter.unusedVariables false
set_option linter.unusedSimpArgs false

theorem ret_int {k : IntKind} {a b : Int} (h : a = b) : Ending.returned (.int k a) = .returned (.int k b) := by rw [h]

set_option maxHeartbeats 1000000 in
theorem GetUint8_ok (b off len cap : Nat) (l : List UInt8) (w : World) (hm : Mem w b off l) (hlen : l.length = len) (hs : 1 ≤ len) :
    Calls Tryz.prog 50 #[.slice (some ⟨b, off, none⟩) len cap] w fun e w' => e = .returned (.int .u8 ((le (l.take 1) : Nat))) ∧ w = w' := by
  obtain ⟨x0, l1, rfl⟩ : ∃ x r, l = x :: r := by cases l with | nil => (simp at hlen; omega) | cons x r => exact ⟨x, r, rfl⟩
  have c0 : w.cell? ⟨b, off, none⟩ = some (.int .u8 (x0.toNat : Int)) := hm 0 x0 rfl
  have b0 : (x0.toNat : Int) ≤ 255 := by have := x0.toNat_lt; omega
  have hfin : le (([x0] ++ l1).take 1) = le [x0] := by simp
  have HF := Lib.hid hfin; clear hfin hm hlen
  go_enter Tryz.func50, Tryz.ntmps50
  go_wp2
  go_ret
  refine ⟨ret_int ?_, rfl⟩
  refine Eq.trans ?_ (congrArg Int.ofNat HF.out).symm
  simp [le]

theorem GetUint8_dies (a : Option Addr) (len cap : Nat) (w : World) (hnil : a = none → len = 0) (hs : len < 1) :
    Calls Tryz.prog 50 #[.slice a len cap] w (Dies w) := by
  obtain ⟨u, v, n, hrun⟩ := run_index_out (P := Tryz.prog) w 52 a len cap .i64 0 Tryz.underlying52 hnil (.inr (by omega))
  clear hnil hs
  go_enter Tryz.func50, Tryz.ntmps50
  go_wp2
  exact ⟨rfl, ⟨u, v, rfl⟩, n, rfl⟩

set_option maxHeartbeats 1000000 in
theorem GetInt8_ok (b off len cap : Nat) (l : List UInt8) (w : World) (hm : Mem w b off l) (hlen : l.length = len) (hs : 1 ≤ len) :
    Calls Tryz.prog 51 #[.slice (some ⟨b, off, none⟩) len cap] w fun e w' => e = .returned (.int .i8 (IntKind.i8.wrap (le (l.take 1) : Nat))) ∧ w = w' := by
  obtain ⟨x0, l1, rfl⟩ : ∃ x r, l = x :: r := by cases l with | nil => (simp at hlen; omega) | cons x r => exact ⟨x, r, rfl⟩
  have c0 : w.cell? ⟨b, off, none⟩ = some (.int .u8 (x0.toNat : Int)) := hm 0 x0 rfl
  have b0 : (x0.toNat : Int) ≤ 255 := by have := x0.toNat_lt; omega
  have hfin : le (([x0] ++ l1).take 1) = le [x0] := by simp
  have HF := Lib.hid hfin; clear hfin hm hlen
  go_enter Tryz.func51, Tryz.ntmps51
  go_wp2
  go_ret
  refine ⟨ret_int ?_, rfl⟩
  refine Eq.trans ?_ (congrArg (fun z : Nat => IntKind.i8.wrap (z : Int)) HF.out).symm
  simp [le]

theorem GetInt8_dies (a : Option Addr) (len cap : Nat) (w : World) (hnil : a = none → len = 0) (hs : len < 1) :
    Calls Tryz.prog 51 #[.slice a len cap] w (Dies w) := by
  obtain ⟨u, v, n, hrun⟩ := run_index_out (P := Tryz.prog) w 52 a len cap .i64 0 Tryz.underlying52 hnil (.inr (by omega))
  clear hnil hs
  go_enter Tryz.func51, Tryz.ntmps51
  go_wp2
  exact ⟨rfl, ⟨u, v, rfl⟩, n, rfl⟩

set_option maxHeartbeats 1000000 in
theorem GetUint16_ok (b off len cap : Nat) (l : List UInt8) (w : World) (hm : Mem w b off l) (hlen : l.length = len) (hs : 2 ≤ len) :
    Calls Tryz.prog 52 #[.slice (some ⟨b, off, none⟩) len cap] w fun e w' => e = .returned (.int .u16 ((le (l.take 2) : Nat))) ∧ w = w' := by
  obtain ⟨x0, l1, rfl⟩ : ∃ x r, l = x :: r := by cases l with | nil => (simp at hlen; omega) | cons x r => exact ⟨x, r, rfl⟩
  obtain ⟨x1, l2, rfl⟩ : ∃ x r, l1 = x :: r := by cases l1 with | nil => (simp at hlen; omega) | cons x r => exact ⟨x, r, rfl⟩
  have c0 : w.cell? ⟨b, off, none⟩ = some (.int .u8 (x0.toNat : Int)) := hm 0 x0 rfl
  have b0 : (x0.toNat : Int) ≤ 255 := by have := x0.toNat_lt; omega
  have c1 : w.cell? ⟨b, off + 1, none⟩ = some (.int .u8 (x1.toNat : Int)) := hm 1 x1 rfl
  have b1 : (x1.toNat : Int) ≤ 255 := by have := x1.toNat_lt; omega
  have hfin : le (([x0, x1] ++ l2).take 2) = le [x0, x1] := by simp
  have HF := Lib.hid hfin; clear hfin hm hlen
  go_enter Tryz.func52, Tryz.ntmps52
  go_wp2
  go_ret
  refine ⟨ret_int ?_, rfl⟩
  refine Eq.trans ?_ (congrArg Int.ofNat HF.out).symm
  show _ = ((le [x0, x1] : Nat) : Int)
  have h := or2 .u16 x0 x1
  rw [← le2] at h
  have hb := le_lt [x0, x1]
  simp only [List.length_cons, List.length_nil] at hb
  have hw : IntKind.u16.wrap ((le [x0, x1] : Nat) : Int) = le [x0, x1] := IntWalk.u16_in _ (by omega)
  rw [hw] at h
  rw [← or_zero] at h
  refine Eq.trans ?_ h
  rfl

theorem GetUint16_dies (a : Option Addr) (len cap : Nat) (w : World) (hnil : a = none → len = 0) (hs : len < 2) :
    Calls Tryz.prog 52 #[.slice a len cap] w (Dies w) := by
  obtain ⟨u, v, n, hrun⟩ := run_index_out (P := Tryz.prog) w 52 a len cap .i64 1 Tryz.underlying52 hnil (.inr (by omega))
  clear hnil hs
  go_enter Tryz.func52, Tryz.ntmps52
  go_wp2
  exact ⟨rfl, ⟨u, v, rfl⟩, n, rfl⟩

set_option maxHeartbeats 1000000 in
theorem GetInt16_ok (b off len cap : Nat) (l : List UInt8) (w : World) (hm : Mem w b off l) (hlen : l.length = len) (hs : 2 ≤ len) :
    Calls Tryz.prog 53 #[.slice (some ⟨b, off, none⟩) len cap] w fun e w' => e = .returned (.int .i16 (IntKind.i16.wrap (le (l.take 2) : Nat))) ∧ w = w' := by
  obtain ⟨x0, l1, rfl⟩ : ∃ x r, l = x :: r := by cases l with | nil => (simp at hlen; omega) | cons x r => exact ⟨x, r, rfl⟩
  obtain ⟨x1, l2, rfl⟩ : ∃ x r, l1 = x :: r := by cases l1 with | nil => (simp at hlen; omega) | cons x r => exact ⟨x, r, rfl⟩
  have c0 : w.cell? ⟨b, off, none⟩ = some (.int .u8 (x0.toNat : Int)) := hm 0 x0 rfl
  have b0 : (x0.toNat : Int) ≤ 255 := by have := x0.toNat_lt; omega
  have c1 : w.cell? ⟨b, off + 1, none⟩ = some (.int .u8 (x1.toNat : Int)) := hm 1 x1 rfl
  have b1 : (x1.toNat : Int) ≤ 255 := by have := x1.toNat_lt; omega
  have hfin : le (([x0, x1] ++ l2).take 2) = le [x0, x1] := by simp
  have HF := Lib.hid hfin; clear hfin hm hlen
  go_enter Tryz.func53, Tryz.ntmps53
  go_wp2
  go_ret
  refine ⟨ret_int ?_, rfl⟩
  refine Eq.trans ?_ (congrArg (fun z : Nat => IntKind.i16.wrap (z : Int)) HF.out).symm
  show _ = IntKind.i16.wrap ((le [x0, x1] : Nat) : Int)
  have h := or2 .i16 x0 x1
  rw [← le2] at h
  rw [← or_zero] at h
  refine Eq.trans ?_ h
  exact bits_or_wrap _ _ _

theorem GetInt16_dies (a : Option Addr) (len cap : Nat) (w : World) (hnil : a = none → len = 0) (hs : len < 2) :
    Calls Tryz.prog 53 #[.slice a len cap] w (Dies w) := by
  obtain ⟨u, v, n, hrun⟩ := run_index_out (P := Tryz.prog) w 52 a len cap .i64 1 Tryz.underlying52 hnil (.inr (by omega))
  clear hnil hs
  go_enter Tryz.func53, Tryz.ntmps53
  go_wp2
  exact ⟨rfl, ⟨u, v, rfl⟩, n, rfl⟩

set_option maxHeartbeats 1000000 in
theorem GetUint32_ok (b off len cap : Nat) (l : List UInt8) (w : World) (hm : Mem w b off l) (hlen : l.length = len) (hs : 4 ≤ len) :
    Calls Tryz.prog 54 #[.slice (some ⟨b, off, none⟩) len cap] w fun e w' => e = .returned (.int .u32 ((le (l.take 4) : Nat))) ∧ w = w' := by
  obtain ⟨x0, l1, rfl⟩ : ∃ x r, l = x :: r := by cases l with | nil => (simp at hlen; omega) | cons x r => exact ⟨x, r, rfl⟩
  obtain ⟨x1, l2, rfl⟩ : ∃ x r, l1 = x :: r := by cases l1 with | nil => (simp at hlen; omega) | cons x r => exact ⟨x, r, rfl⟩
  obtain ⟨x2, l3, rfl⟩ : ∃ x r, l2 = x :: r := by cases l2 with | nil => (simp at hlen; omega) | cons x r => exact ⟨x, r, rfl⟩
  obtain ⟨x3, l4, rfl⟩ : ∃ x r, l3 = x :: r := by cases l3 with | nil => (simp at hlen; omega) | cons x r => exact ⟨x, r, rfl⟩
  have c0 : w.cell? ⟨b, off, none⟩ = some (.int .u8 (x0.toNat : Int)) := hm 0 x0 rfl
  have b0 : (x0.toNat : Int) ≤ 255 := by have := x0.toNat_lt; omega
  have c1 : w.cell? ⟨b, off + 1, none⟩ = some (.int .u8 (x1.toNat : Int)) := hm 1 x1 rfl
  have b1 : (x1.toNat : Int) ≤ 255 := by have := x1.toNat_lt; omega
  have c2 : w.cell? ⟨b, off + 2, none⟩ = some (.int .u8 (x2.toNat : Int)) := hm 2 x2 rfl
  have b2 : (x2.toNat : Int) ≤ 255 := by have := x2.toNat_lt; omega
  have c3 : w.cell? ⟨b, off + 3, none⟩ = some (.int .u8 (x3.toNat : Int)) := hm 3 x3 rfl
  have b3 : (x3.toNat : Int) ≤ 255 := by have := x3.toNat_lt; omega
  have hfin : le (([x0, x1, x2, x3] ++ l4).take 4) = le [x0, x1, x2, x3] := by simp
  have HF := Lib.hid hfin; clear hfin hm hlen
  go_enter Tryz.func54, Tryz.ntmps54
  go_wp2
  go_ret
  refine ⟨ret_int ?_, rfl⟩
  refine Eq.trans ?_ (congrArg Int.ofNat HF.out).symm
  show _ = ((le [x0, x1, x2, x3] : Nat) : Int)
  have h := or4 .u32 x0 x1 x2 x3
  have hb := le_lt [x0, x1, x2, x3]
  simp only [List.length_cons, List.length_nil] at hb
  have hw : IntKind.u32.wrap ((le [x0, x1, x2, x3] : Nat) : Int) = le [x0, x1, x2, x3] := IntWalk.u32_in _ (by omega)
  rw [hw] at h
  rw [← or_zero] at h
  refine Eq.trans ?_ h
  rfl

theorem GetUint32_dies (a : Option Addr) (len cap : Nat) (w : World) (hnil : a = none → len = 0) (hs : len < 4) :
    Calls Tryz.prog 54 #[.slice a len cap] w (Dies w) := by
  obtain ⟨u, v, n, hrun⟩ := run_index_out (P := Tryz.prog) w 52 a len cap .i64 3 Tryz.underlying52 hnil (.inr (by omega))
  clear hnil hs
  go_enter Tryz.func54, Tryz.ntmps54
  go_wp2
  exact ⟨rfl, ⟨u, v, rfl⟩, n, rfl⟩

set_option maxHeartbeats 1000000 in
theorem GetInt32_ok (b off len cap : Nat) (l : List UInt8) (w : World) (hm : Mem w b off l) (hlen : l.length = len) (hs : 4 ≤ len) :
    Calls Tryz.prog 55 #[.slice (some ⟨b, off, none⟩) len cap] w fun e w' => e = .returned (.int .i32 (IntKind.i32.wrap (le (l.take 4) : Nat))) ∧ w = w' := by
  obtain ⟨x0, l1, rfl⟩ : ∃ x r, l = x :: r := by cases l with | nil => (simp at hlen; omega) | cons x r => exact ⟨x, r, rfl⟩
  obtain ⟨x1, l2, rfl⟩ : ∃ x r, l1 = x :: r := by cases l1 with | nil => (simp at hlen; omega) | cons x r => exact ⟨x, r, rfl⟩
  obtain ⟨x2, l3, rfl⟩ : ∃ x r, l2 = x :: r := by cases l2 with | nil => (simp at hlen; omega) | cons x r => exact ⟨x, r, rfl⟩
  obtain ⟨x3, l4, rfl⟩ : ∃ x r, l3 = x :: r := by cases l3 with | nil => (simp at hlen; omega) | cons x r => exact ⟨x, r, rfl⟩
  have c0 : w.cell? ⟨b, off, none⟩ = some (.int .u8 (x0.toNat : Int)) := hm 0 x0 rfl
  have b0 : (x0.toNat : Int) ≤ 255 := by have := x0.toNat_lt; omega
  have c1 : w.cell? ⟨b, off + 1, none⟩ = some (.int .u8 (x1.toNat : Int)) := hm 1 x1 rfl
  have b1 : (x1.toNat : Int) ≤ 255 := by have := x1.toNat_lt; omega
  have c2 : w.cell? ⟨b, off + 2, none⟩ = some (.int .u8 (x2.toNat : Int)) := hm 2 x2 rfl
  have b2 : (x2.toNat : Int) ≤ 255 := by have := x2.toNat_lt; omega
  have c3 : w.cell? ⟨b, off + 3, none⟩ = some (.int .u8 (x3.toNat : Int)) := hm 3 x3 rfl
  have b3 : (x3.toNat : Int) ≤ 255 := by have := x3.toNat_lt; omega
  have hfin : le (([x0, x1, x2, x3] ++ l4).take 4) = le [x0, x1, x2, x3] := by simp
  have HF := Lib.hid hfin; clear hfin hm hlen
  go_enter Tryz.func55, Tryz.ntmps55
  go_wp2
  go_ret
  refine ⟨ret_int ?_, rfl⟩
  refine Eq.trans ?_ (congrArg (fun z : Nat => IntKind.i32.wrap (z : Int)) HF.out).symm
  show _ = IntKind.i32.wrap ((le [x0, x1, x2, x3] : Nat) : Int)
  have h := or4 .i32 x0 x1 x2 x3
  have hz : IntKind.i32.wrap (x0.toNat : Int) = x0.toNat := IntWalk.i32_in _ (by omega)
  rw [hz] at h
  refine Eq.trans ?_ h
  refine (congrArg (bits BinOp.or IntKind.i32 _) (IntWalk.i32_left _).symm).trans ?_
  exact bits_or_wrap _ _ _

theorem GetInt32_dies (a : Option Addr) (len cap : Nat) (w : World) (hnil : a = none → len = 0) (hs : len < 4) :
    Calls Tryz.prog 55 #[.slice a len cap] w (Dies w) := by
  obtain ⟨u, v, n, hrun⟩ := run_index_out (P := Tryz.prog) w 52 a len cap .i64 3 Tryz.underlying52 hnil (.inr (by omega))
  clear hnil hs
  go_enter Tryz.func55, Tryz.ntmps55
  go_wp2
  exact ⟨rfl, ⟨u, v, rfl⟩, n, rfl⟩

set_option maxHeartbeats 1000000 in
theorem GetUint64_ok (b off len cap : Nat) (l : List UInt8) (w : World) (hm : Mem w b off l) (hlen : l.length = len) (hs : 8 ≤ len) :
    Calls Tryz.prog 56 #[.slice (some ⟨b, off, none⟩) len cap] w fun e w' => e = .returned (.int .u64 ((le (l.take 8) : Nat))) ∧ w = w' := by
  obtain ⟨x0, l1, rfl⟩ : ∃ x r, l = x :: r := by cases l with | nil => (simp at hlen; omega) | cons x r => exact ⟨x, r, rfl⟩
  obtain ⟨x1, l2, rfl⟩ : ∃ x r, l1 = x :: r := by cases l1 with | nil => (simp at hlen; omega) | cons x r => exact ⟨x, r, rfl⟩
  obtain ⟨x2, l3, rfl⟩ : ∃ x r, l2 = x :: r := by cases l2 with | nil => (simp at hlen; omega) | cons x r => exact ⟨x, r, rfl⟩
  obtain ⟨x3, l4, rfl⟩ : ∃ x r, l3 = x :: r := by cases l3 with | nil => (simp at hlen; omega) | cons x r => exact ⟨x, r, rfl⟩
  obtain ⟨x4, l5, rfl⟩ : ∃ x r, l4 = x :: r := by cases l4 with | nil => (simp at hlen; omega) | cons x r => exact ⟨x, r, rfl⟩
  obtain ⟨x5, l6, rfl⟩ : ∃ x r, l5 = x :: r := by cases l5 with | nil => (simp at hlen; omega) | cons x r => exact ⟨x, r, rfl⟩
  obtain ⟨x6, l7, rfl⟩ : ∃ x r, l6 = x :: r := by cases l6 with | nil => (simp at hlen; omega) | cons x r => exact ⟨x, r, rfl⟩
  obtain ⟨x7, l8, rfl⟩ : ∃ x r, l7 = x :: r := by cases l7 with | nil => (simp at hlen; omega) | cons x r => exact ⟨x, r, rfl⟩
  have c0 : w.cell? ⟨b, off, none⟩ = some (.int .u8 (x0.toNat : Int)) := hm 0 x0 rfl
  have b0 : (x0.toNat : Int) ≤ 255 := by have := x0.toNat_lt; omega
  have c1 : w.cell? ⟨b, off + 1, none⟩ = some (.int .u8 (x1.toNat : Int)) := hm 1 x1 rfl
  have b1 : (x1.toNat : Int) ≤ 255 := by have := x1.toNat_lt; omega
  have c2 : w.cell? ⟨b, off + 2, none⟩ = some (.int .u8 (x2.toNat : Int)) := hm 2 x2 rfl
  have b2 : (x2.toNat : Int) ≤ 255 := by have := x2.toNat_lt; omega
  have c3 : w.cell? ⟨b, off + 3, none⟩ = some (.int .u8 (x3.toNat : Int)) := hm 3 x3 rfl
  have b3 : (x3.toNat : Int) ≤ 255 := by have := x3.toNat_lt; omega
  have c4 : w.cell? ⟨b, off + 4, none⟩ = some (.int .u8 (x4.toNat : Int)) := hm 4 x4 rfl
  have b4 : (x4.toNat : Int) ≤ 255 := by have := x4.toNat_lt; omega
  have c5 : w.cell? ⟨b, off + 5, none⟩ = some (.int .u8 (x5.toNat : Int)) := hm 5 x5 rfl
  have b5 : (x5.toNat : Int) ≤ 255 := by have := x5.toNat_lt; omega
  have c6 : w.cell? ⟨b, off + 6, none⟩ = some (.int .u8 (x6.toNat : Int)) := hm 6 x6 rfl
  have b6 : (x6.toNat : Int) ≤ 255 := by have := x6.toNat_lt; omega
  have c7 : w.cell? ⟨b, off + 7, none⟩ = some (.int .u8 (x7.toNat : Int)) := hm 7 x7 rfl
  have b7 : (x7.toNat : Int) ≤ 255 := by have := x7.toNat_lt; omega
  have hfin : le (([x0, x1, x2, x3, x4, x5, x6, x7] ++ l8).take 8) = le [x0, x1, x2, x3, x4, x5, x6, x7] := by simp
  have HF := Lib.hid hfin; clear hfin hm hlen
  go_enter Tryz.func56, Tryz.ntmps56
  go_wp2
  go_ret
  refine ⟨ret_int ?_, rfl⟩
  refine Eq.trans ?_ (congrArg Int.ofNat HF.out).symm
  show _ = ((le [x0, x1, x2, x3, x4, x5, x6, x7] : Nat) : Int)
  have h := or8 .u64 x0 x1 x2 x3 x4 x5 x6 x7
  have hb := le_lt [x0, x1, x2, x3, x4, x5, x6, x7]
  simp only [List.length_cons, List.length_nil] at hb
  have hw : IntKind.u64.wrap ((le [x0, x1, x2, x3, x4, x5, x6, x7] : Nat) : Int) = le [x0, x1, x2, x3, x4, x5, x6, x7] := IntWalk.u64_in _ (by omega)
  rw [hw] at h
  rw [← or_zero] at h
  refine Eq.trans ?_ h
  rfl

theorem GetUint64_dies (a : Option Addr) (len cap : Nat) (w : World) (hnil : a = none → len = 0) (hs : len < 8) :
    Calls Tryz.prog 56 #[.slice a len cap] w (Dies w) := by
  obtain ⟨u, v, n, hrun⟩ := run_index_out (P := Tryz.prog) w 52 a len cap .i64 7 Tryz.underlying52 hnil (.inr (by omega))
  clear hnil hs
  go_enter Tryz.func56, Tryz.ntmps56
  go_wp2
  exact ⟨rfl, ⟨u, v, rfl⟩, n, rfl⟩

set_option maxHeartbeats 1000000 in
theorem GetInt64_ok (b off len cap : Nat) (l : List UInt8) (w : World) (hm : Mem w b off l) (hlen : l.length = len) (hs : 8 ≤ len) :
    Calls Tryz.prog 57 #[.slice (some ⟨b, off, none⟩) len cap] w fun e w' => e = .returned (.int .i64 (IntKind.i64.wrap (le (l.take 8) : Nat))) ∧ w = w' := by
  obtain ⟨x0, l1, rfl⟩ : ∃ x r, l = x :: r := by cases l with | nil => (simp at hlen; omega) | cons x r => exact ⟨x, r, rfl⟩
  obtain ⟨x1, l2, rfl⟩ : ∃ x r, l1 = x :: r := by cases l1 with | nil => (simp at hlen; omega) | cons x r => exact ⟨x, r, rfl⟩
  obtain ⟨x2, l3, rfl⟩ : ∃ x r, l2 = x :: r := by cases l2 with | nil => (simp at hlen; omega) | cons x r => exact ⟨x, r, rfl⟩
  obtain ⟨x3, l4, rfl⟩ : ∃ x r, l3 = x :: r := by cases l3 with | nil => (simp at hlen; omega) | cons x r => exact ⟨x, r, rfl⟩
  obtain ⟨x4, l5, rfl⟩ : ∃ x r, l4 = x :: r := by cases l4 with | nil => (simp at hlen; omega) | cons x r => exact ⟨x, r, rfl⟩
  obtain ⟨x5, l6, rfl⟩ : ∃ x r, l5 = x :: r := by cases l5 with | nil => (simp at hlen; omega) | cons x r => exact ⟨x, r, rfl⟩
  obtain ⟨x6, l7, rfl⟩ : ∃ x r, l6 = x :: r := by cases l6 with | nil => (simp at hlen; omega) | cons x r => exact ⟨x, r, rfl⟩
  obtain ⟨x7, l8, rfl⟩ : ∃ x r, l7 = x :: r := by cases l7 with | nil => (simp at hlen; omega) | cons x r => exact ⟨x, r, rfl⟩
  have c0 : w.cell? ⟨b, off, none⟩ = some (.int .u8 (x0.toNat : Int)) := hm 0 x0 rfl
  have b0 : (x0.toNat : Int) ≤ 255 := by have := x0.toNat_lt; omega
  have c1 : w.cell? ⟨b, off + 1, none⟩ = some (.int .u8 (x1.toNat : Int)) := hm 1 x1 rfl
  have b1 : (x1.toNat : Int) ≤ 255 := by have := x1.toNat_lt; omega
  have c2 : w.cell? ⟨b, off + 2, none⟩ = some (.int .u8 (x2.toNat : Int)) := hm 2 x2 rfl
  have b2 : (x2.toNat : Int) ≤ 255 := by have := x2.toNat_lt; omega
  have c3 : w.cell? ⟨b, off + 3, none⟩ = some (.int .u8 (x3.toNat : Int)) := hm 3 x3 rfl
  have b3 : (x3.toNat : Int) ≤ 255 := by have := x3.toNat_lt; omega
  have c4 : w.cell? ⟨b, off + 4, none⟩ = some (.int .u8 (x4.toNat : Int)) := hm 4 x4 rfl
  have b4 : (x4.toNat : Int) ≤ 255 := by have := x4.toNat_lt; omega
  have c5 : w.cell? ⟨b, off + 5, none⟩ = some (.int .u8 (x5.toNat : Int)) := hm 5 x5 rfl
  have b5 : (x5.toNat : Int) ≤ 255 := by have := x5.toNat_lt; omega
  have c6 : w.cell? ⟨b, off + 6, none⟩ = some (.int .u8 (x6.toNat : Int)) := hm 6 x6 rfl
  have b6 : (x6.toNat : Int) ≤ 255 := by have := x6.toNat_lt; omega
  have c7 : w.cell? ⟨b, off + 7, none⟩ = some (.int .u8 (x7.toNat : Int)) := hm 7 x7 rfl
  have b7 : (x7.toNat : Int) ≤ 255 := by have := x7.toNat_lt; omega
  have hfin : le (([x0, x1, x2, x3, x4, x5, x6, x7] ++ l8).take 8) = le [x0, x1, x2, x3, x4, x5, x6, x7] := by simp
  have HF := Lib.hid hfin; clear hfin hm hlen
  go_enter Tryz.func57, Tryz.ntmps57
  go_wp2
  go_ret
  refine ⟨ret_int ?_, rfl⟩
  refine Eq.trans ?_ (congrArg (fun z : Nat => IntKind.i64.wrap (z : Int)) HF.out).symm
  show _ = IntKind.i64.wrap ((le [x0, x1, x2, x3, x4, x5, x6, x7] : Nat) : Int)
  have h := or8 .i64 x0 x1 x2 x3 x4 x5 x6 x7
  rw [← or_zero] at h
  refine Eq.trans ?_ h
  refine (congrArg (bits BinOp.or IntKind.i64 _) (IntWalk.i64_left _).symm).trans ?_
  exact bits_or_wrap _ _ _

theorem GetInt64_dies (a : Option Addr) (len cap : Nat) (w : World) (hnil : a = none → len = 0) (hs : len < 8) :
    Calls Tryz.prog 57 #[.slice a len cap] w (Dies w) := by
  obtain ⟨u, v, n, hrun⟩ := run_index_out (P := Tryz.prog) w 52 a len cap .i64 7 Tryz.underlying52 hnil (.inr (by omega))
  clear hnil hs
  go_enter Tryz.func57, Tryz.ntmps57
  go_wp2
  exact ⟨rfl, ⟨u, v, rfl⟩, n, rfl⟩

theorem run_f32bits (n : Nat) (w : World) : (callFunc 58 #[.float .f32 n]).run Tryz.prog w = .ok (.value (.int .u32 n)) w := by kernel_rfl
theorem run_f64bits (n : Nat) (w : World) : (callFunc 60 #[.float .f64 n]).run Tryz.prog w = .ok (.value (.int .u64 n)) w := by kernel_rfl
theorem run_f32from (n : Int) (w : World) : (callFunc 76 #[.int .u32 n]).run Tryz.prog w = .ok (.value (.float .f32 n.toNat)) w := by kernel_rfl
theorem run_f64from (n : Int) (w : World) : (callFunc 78 #[.int .u64 n]).run Tryz.prog w = .ok (.value (.float .f64 n.toNat)) w := by kernel_rfl


theorem GetByte_ok (b off len cap : Nat) (l : List UInt8) (w : World) (hm : Mem w b off l) (hlen : l.length = len) (hs : 1 ≤ len) :
    Calls Tryz.prog 62 #[.slice (some ⟨b, off, none⟩) len cap] w fun e w' => e = .returned (.int .u8 ((le (l.take 1) : Nat))) ∧ w = w' := by
  have HC := Lib.hid (GetUint8_ok b off len cap l w hm hlen hs)
  clear hm hlen hs
  go_enter Tryz.func62, Tryz.ntmps62
  go_wp2_with (go_at_call 50; refine HC.out.mono ?_; rintro e w' ⟨rfl, rfl⟩)
  go_ret
  exact ⟨rfl, rfl⟩
theorem GetByte_dies (a : Option Addr) (len cap : Nat) (w : World) (hnil : a = none → len = 0) (hs : len < 1) :
    Calls Tryz.prog 62 #[.slice a len cap] w (Dies w) := by
  have HC := Lib.hid (GetUint8_dies a len cap w hnil hs)
  clear hnil hs
  go_enter Tryz.func62, Tryz.ntmps62
  go_wp2_with (go_at_call 50; refine HC.out.mono ?_; rintro e w' ⟨⟨u, v, rfl⟩, n, rfl⟩)
  exact ⟨rfl, ⟨u, v, rfl⟩, n, rfl⟩

theorem GetSOffsetT_ok (b off len cap : Nat) (l : List UInt8) (w : World) (hm : Mem w b off l) (hlen : l.length = len) (hs : 4 ≤ len) :
    Calls Tryz.prog 63 #[.slice (some ⟨b, off, none⟩) len cap] w fun e w' => e = .returned (.int .i32 (IntKind.i32.wrap (le (l.take 4) : Nat))) ∧ w = w' := by
  have HC := Lib.hid (GetInt32_ok b off len cap l w hm hlen hs)
  clear hm hlen hs
  go_enter Tryz.func63, Tryz.ntmps63
  go_wp2_with (go_at_call 55; refine HC.out.mono ?_; rintro e w' ⟨rfl, rfl⟩)
  go_ret
  exact ⟨rfl, rfl⟩
theorem GetSOffsetT_dies (a : Option Addr) (len cap : Nat) (w : World) (hnil : a = none → len = 0) (hs : len < 4) :
    Calls Tryz.prog 63 #[.slice a len cap] w (Dies w) := by
  have HC := Lib.hid (GetInt32_dies a len cap w hnil hs)
  clear hnil hs
  go_enter Tryz.func63, Tryz.ntmps63
  go_wp2_with (go_at_call 55; refine HC.out.mono ?_; rintro e w' ⟨⟨u, v, rfl⟩, n, rfl⟩)
  exact ⟨rfl, ⟨u, v, rfl⟩, n, rfl⟩

theorem GetVOffsetT_ok (b off len cap : Nat) (l : List UInt8) (w : World) (hm : Mem w b off l) (hlen : l.length = len) (hs : 2 ≤ len) :
    Calls Tryz.prog 64 #[.slice (some ⟨b, off, none⟩) len cap] w fun e w' => e = .returned (.int .u16 ((le (l.take 2) : Nat))) ∧ w = w' := by
  have HC := Lib.hid (GetUint16_ok b off len cap l w hm hlen hs)
  clear hm hlen hs
  go_enter Tryz.func64, Tryz.ntmps64
  go_wp2_with (go_at_call 52; refine HC.out.mono ?_; rintro e w' ⟨rfl, rfl⟩)
  go_ret
  exact ⟨rfl, rfl⟩
theorem GetVOffsetT_dies (a : Option Addr) (len cap : Nat) (w : World) (hnil : a = none → len = 0) (hs : len < 2) :
    Calls Tryz.prog 64 #[.slice a len cap] w (Dies w) := by
  have HC := Lib.hid (GetUint16_dies a len cap w hnil hs)
  clear hnil hs
  go_enter Tryz.func64, Tryz.ntmps64
  go_wp2_with (go_at_call 52; refine HC.out.mono ?_; rintro e w' ⟨⟨u, v, rfl⟩, n, rfl⟩)
  exact ⟨rfl, ⟨u, v, rfl⟩, n, rfl⟩

theorem u32_of_i32 (n : Nat) (h : n < 2 ^ 32) : IntKind.u32.wrap (IntKind.i32.wrap (n : Int)) = n := by
  rw [wrap_congr .u32 (wrap_emod .i32 n)]
  exact IntWalk.u32_in _ (by omega)
theorem le_take_lt (l : List UInt8) (k : Nat) : le (l.take k) < 2 ^ (8 * k) := by
  refine Nat.lt_of_lt_of_le (le_lt _) (Nat.pow_le_pow_right (by omega) ?_)
  simp; omega
theorem GetUOffsetT_ok (b off len cap : Nat) (l : List UInt8) (w : World) (hm : Mem w b off l) (hlen : l.length = len) (hs : 4 ≤ len) :
    Calls Tryz.prog 47 #[.slice (some ⟨b, off, none⟩) len cap] w fun e w' => e = .returned (.int .u32 (le (l.take 4) : Nat)) ∧ w = w' := by
  have HC := Lib.hid (GetInt32_ok b off len cap l w hm hlen hs)
  have hv := u32_of_i32 _ (le_take_lt l 4)
  have HV := Lib.hid hv; clear hv
  clear hm hlen hs
  go_enter Tryz.func47, Tryz.ntmps47
  go_wp2_with (go_at_call 55; refine HC.out.mono ?_; rintro e w' ⟨rfl, rfl⟩)
  go_ret
  exact ⟨ret_int (Eq.trans (by rw [IntKind.wrap_u32, IntWalk.i32_left]) HV.out), rfl⟩
theorem GetUOffsetT_dies (a : Option Addr) (len cap : Nat) (w : World) (hnil : a = none → len = 0) (hs : len < 4) :
    Calls Tryz.prog 47 #[.slice a len cap] w (Dies w) := by
  have HC := Lib.hid (GetInt32_dies a len cap w hnil hs)
  clear hnil hs
  go_enter Tryz.func47, Tryz.ntmps47
  go_wp2_with (go_at_call 55; refine HC.out.mono ?_; rintro e w' ⟨⟨u, v, rfl⟩, n, rfl⟩)
  exact ⟨rfl, ⟨u, v, rfl⟩, n, rfl⟩
theorem GetBool_ok (b off len cap : Nat) (l : List UInt8) (w : World) (hm : Mem w b off l) (hlen : l.length = len) (hs : 1 ≤ len) :
    Calls Tryz.prog 49 #[.slice (some ⟨b, off, none⟩) len cap] w fun e w' => e = .returned (.bool (((le (l.take 1) : Nat) : Int) == 1)) ∧ w = w' := by
  obtain ⟨x0, l1, rfl⟩ : ∃ x r, l = x :: r := by cases l with | nil => (simp at hlen; omega) | cons x r => exact ⟨x, r, rfl⟩
  have c0 : w.cell? ⟨b, off, none⟩ = some (.int .u8 (x0.toNat : Int)) := hm 0 x0 rfl
  clear hm hlen
  go_enter Tryz.func49, Tryz.ntmps49
  go_wp2
  go_ret
  refine ⟨?_, rfl⟩
  simp [le]
theorem GetBool_dies (a : Option Addr) (len cap : Nat) (w : World) (hnil : a = none → len = 0) (hs : len < 1) :
    Calls Tryz.prog 49 #[.slice a len cap] w (Dies w) := by
  obtain ⟨u, v, n, hrun⟩ := run_index_out (P := Tryz.prog) w 52 a len cap .i64 0 Tryz.underlying52 hnil (.inr (by omega))
  clear hnil hs
  go_enter Tryz.func49, Tryz.ntmps49
  go_wp2
  exact ⟨rfl, ⟨u, v, rfl⟩, n, rfl⟩

theorem GetFloat32_ok (b off len cap : Nat) (l : List UInt8) (w : World) (hm : Mem w b off l) (hlen : l.length = len) (hs : 4 ≤ len) :
    Calls Tryz.prog 59 #[.slice (some ⟨b, off, none⟩) len cap] w fun e w' => e = .returned (.float .f32 (le (l.take 4))) ∧ w = w' := by
  have HC := Lib.hid (GetUint32_ok b off len cap l w hm hlen hs)
  have hfrom := run_f32from
  clear hm hlen hs
  go_enter Tryz.func59, Tryz.ntmps59
  go_wp2_with (go_at_call 54; refine HC.out.mono ?_; rintro e w' ⟨rfl, rfl⟩)
  go_ret
  exact ⟨rfl, rfl⟩
theorem GetFloat32_dies (a : Option Addr) (len cap : Nat) (w : World) (hnil : a = none → len = 0) (hs : len < 4) :
    Calls Tryz.prog 59 #[.slice a len cap] w (Dies w) := by
  have HC := Lib.hid (GetUint32_dies a len cap w hnil hs)
  clear hnil hs
  go_enter Tryz.func59, Tryz.ntmps59
  go_wp2_with (go_at_call 54; refine HC.out.mono ?_; rintro e w' ⟨⟨u, v, rfl⟩, n, rfl⟩)
  exact ⟨rfl, ⟨u, v, rfl⟩, n, rfl⟩

theorem GetFloat64_ok (b off len cap : Nat) (l : List UInt8) (w : World) (hm : Mem w b off l) (hlen : l.length = len) (hs : 8 ≤ len) :
    Calls Tryz.prog 61 #[.slice (some ⟨b, off, none⟩) len cap] w fun e w' => e = .returned (.float .f64 (le (l.take 8))) ∧ w = w' := by
  have HC := Lib.hid (GetUint64_ok b off len cap l w hm hlen hs)
  have hfrom := run_f64from
  clear hm hlen hs
  go_enter Tryz.func61, Tryz.ntmps61
  go_wp2_with (go_at_call 56; refine HC.out.mono ?_; rintro e w' ⟨rfl, rfl⟩)
  go_ret
  exact ⟨rfl, rfl⟩
theorem GetFloat64_dies (a : Option Addr) (len cap : Nat) (w : World) (hnil : a = none → len = 0) (hs : len < 8) :
    Calls Tryz.prog 61 #[.slice a len cap] w (Dies w) := by
  have HC := Lib.hid (GetUint64_dies a len cap w hnil hs)
  clear hnil hs
  go_enter Tryz.func61, Tryz.ntmps61
  go_wp2_with (go_at_call 56; refine HC.out.mono ?_; rintro e w' ⟨⟨u, v, rfl⟩, n, rfl⟩)
  exact ⟨rfl, ⟨u, v, rfl⟩, n, rfl⟩

end Go.Proofs.YtjfgippolckaeaaGreat
