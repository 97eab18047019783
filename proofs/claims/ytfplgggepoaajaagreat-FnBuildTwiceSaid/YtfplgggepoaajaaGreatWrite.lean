/- The package's Write.. into a byte slice: the number's bytes stand in the first cells, and Go's panic where there are too few. -/
import Derived.Test.YtfplgggepoaajaaGreatProg
import Derived.Test.YtfplgggepoaajaaGreatBase
import Derived.Test.YtfplgggepoaajaaGreatGet
import Derived.Laws.ShiftsVar
namespace Go.Proofs.YtfplgggepoaajaaGreat
open Go.RowKit
set_option linter.unusedVariables false
set_option linter.unusedSimpArgs false

/-- The cells that a number's bytes are written to. -/
theorem cells_leI1 (x : Int) : cellsOf (leI 1 x) = [.int .u8 (x % 256)] := by simp only [leI, cellsOf, List.map_cons, List.map_nil, byteI]
theorem cells_leI2 (x : Int) : cellsOf (leI 2 x) = [.int .u8 (x % 256), .int .u8 (x / 256 % 256)] := by simp only [leI, cellsOf, List.map_cons, List.map_nil, byteI]
theorem cells_leI4 (x : Int) : cellsOf (leI 4 x) = [.int .u8 (x % 256), .int .u8 (x / 256 % 256), .int .u8 (x / 65536 % 256), .int .u8 (x / 16777216 % 256)] := by
  simp only [leI, cellsOf, List.map_cons, List.map_nil, byteI, Int.ediv_ediv_of_nonneg (show (0 : Int) ≤ 256 by decide), Int.ediv_ediv_of_nonneg (show (0 : Int) ≤ 65536 by decide), Int.reduceMul]
theorem cells_leI8 (x : Int) : cellsOf (leI 8 x) = [.int .u8 (x % 256), .int .u8 (x / 256 % 256), .int .u8 (x / 65536 % 256), .int .u8 (x / 16777216 % 256), .int .u8 (x / 4294967296 % 256), .int .u8 (x / 1099511627776 % 256), .int .u8 (x / 281474976710656 % 256), .int .u8 (x / 72057594037927936 % 256)] := by
  simp only [leI, cellsOf, List.map_cons, List.map_nil, byteI, Int.ediv_ediv_of_nonneg (show (0 : Int) ≤ 256 by decide), Int.ediv_ediv_of_nonneg (show (0 : Int) ≤ 65536 by decide), Int.ediv_ediv_of_nonneg (show (0 : Int) ≤ 16777216 by decide), Int.ediv_ediv_of_nonneg (show (0 : Int) ≤ 4294967296 by decide), Int.ediv_ediv_of_nonneg (show (0 : Int) ≤ 1099511627776 by decide), Int.ediv_ediv_of_nonneg (show (0 : Int) ≤ 281474976710656 by decide), Int.reduceMul]

theorem cell_there {w : World} {b : Nat} {c : Array Value} {t : TypeId} (hb : w.heap[b]? = some (.cells c t (0, 0))) (i : Nat) (hi : i < c.size) : ∃ v, w.cell? ⟨b, i, none⟩ = some v :=
  ⟨c[i], by rw [cell_of hb]; simp [hi]⟩
theorem ret_w {w w' : World} (h : w = w') : w = w' := h

set_option maxHeartbeats 1000000 in
theorem WriteUint8_ok (b off len cap : Nat) (x : Int) (c : Array Value) (t : TypeId) (w : World) (hb : w.heap[b]? = some (.cells c t (0, 0))) (hfit : off + len ≤ c.size) (hs : 1 ≤ len) (h0 : 0 ≤ x) (h1 : x < 256) :
    Calls Tryz.prog 128 #[.slice (some ⟨b, off, none⟩) len cap, .int .u8 x] w fun e w' => e = .returned (.tuple #[]) ∧ w.setCells b off (cellsOf (leI 1 x)) = w' := by
  obtain ⟨x0, c0⟩ := cell_there hb (off) (by omega)
  have f0 := frozen_of hb (off)
  clear hb hfit
  go_enter Tryz.func128, Tryz.ntmps128
  go_wp2
  go_end0
  refine ⟨rfl, ?_⟩
  rw [cells_leI1]
  rw [Int.emod_eq_of_lt h0 h1]
  rfl

theorem WriteUint8_dies (a : Option Addr) (len cap : Nat) (x : Int) (w : World) (hnil : a = none → len = 0) (hs : len < 1) :
    Calls Tryz.prog 128 #[.slice a len cap, .int .u8 x] w (Dies w) := by
  obtain ⟨u, v, n, hrun⟩ := run_index_out (P := Tryz.prog) w 49 a len cap .i64 0 Tryz.underlying49 hnil (.inr (by omega))
  clear hnil hs
  go_enter Tryz.func128, Tryz.ntmps128
  go_wp2
  exact ⟨rfl, ⟨u, v, rfl⟩, n, rfl⟩

set_option maxHeartbeats 1000000 in
theorem WriteInt8_ok (b off len cap : Nat) (x : Int) (c : Array Value) (t : TypeId) (w : World) (hb : w.heap[b]? = some (.cells c t (0, 0))) (hfit : off + len ≤ c.size) (hs : 1 ≤ len) :
    Calls Tryz.prog 129 #[.slice (some ⟨b, off, none⟩) len cap, .int .i8 x] w fun e w' => e = .returned (.tuple #[]) ∧ w.setCells b off (cellsOf (leI 1 x)) = w' := by
  obtain ⟨x0, c0⟩ := cell_there hb (off) (by omega)
  have f0 := frozen_of hb (off)
  clear hb hfit
  go_enter Tryz.func129, Tryz.ntmps129
  go_wp2
  go_end0
  refine ⟨rfl, ?_⟩
  rw [cells_leI1]
  rfl

theorem WriteInt8_dies (a : Option Addr) (len cap : Nat) (x : Int) (w : World) (hnil : a = none → len = 0) (hs : len < 1) :
    Calls Tryz.prog 129 #[.slice a len cap, .int .i8 x] w (Dies w) := by
  obtain ⟨u, v, n, hrun⟩ := run_index_out (P := Tryz.prog) w 49 a len cap .i64 0 Tryz.underlying49 hnil (.inr (by omega))
  clear hnil hs
  go_enter Tryz.func129, Tryz.ntmps129
  go_wp2
  exact ⟨rfl, ⟨u, v, rfl⟩, n, rfl⟩

set_option maxHeartbeats 1000000 in
theorem WriteUint16_ok (b off len cap : Nat) (x : Int) (c : Array Value) (t : TypeId) (w : World) (hb : w.heap[b]? = some (.cells c t (0, 0))) (hfit : off + len ≤ c.size) (hs : 2 ≤ len) :
    Calls Tryz.prog 130 #[.slice (some ⟨b, off, none⟩) len cap, .int .u16 x] w fun e w' => e = .returned (.tuple #[]) ∧ w.setCells b off (cellsOf (leI 2 x)) = w' := by
  obtain ⟨x0, c0⟩ := cell_there hb (off) (by omega)
  have f0 := frozen_of hb (off)
  obtain ⟨x1, c1⟩ := cell_there hb (off + 1) (by omega)
  have f1 := frozen_of hb (off + 1)
  clear hb hfit
  go_enter Tryz.func130, Tryz.ntmps130
  go_wp2
  go_end0
  refine ⟨rfl, ?_⟩
  rw [cells_leI2]
  rfl

theorem WriteUint16_dies (a : Option Addr) (len cap : Nat) (x : Int) (w : World) (hnil : a = none → len = 0) (hs : len < 2) :
    Calls Tryz.prog 130 #[.slice a len cap, .int .u16 x] w (Dies w) := by
  obtain ⟨u, v, n, hrun⟩ := run_index_out (P := Tryz.prog) w 49 a len cap .i64 1 Tryz.underlying49 hnil (.inr (by omega))
  clear hnil hs
  go_enter Tryz.func130, Tryz.ntmps130
  go_wp2
  exact ⟨rfl, ⟨u, v, rfl⟩, n, rfl⟩

set_option maxHeartbeats 1000000 in
theorem WriteInt16_ok (b off len cap : Nat) (x : Int) (c : Array Value) (t : TypeId) (w : World) (hb : w.heap[b]? = some (.cells c t (0, 0))) (hfit : off + len ≤ c.size) (hs : 2 ≤ len) :
    Calls Tryz.prog 131 #[.slice (some ⟨b, off, none⟩) len cap, .int .i16 x] w fun e w' => e = .returned (.tuple #[]) ∧ w.setCells b off (cellsOf (leI 2 x)) = w' := by
  obtain ⟨x0, c0⟩ := cell_there hb (off) (by omega)
  have f0 := frozen_of hb (off)
  obtain ⟨x1, c1⟩ := cell_there hb (off + 1) (by omega)
  have f1 := frozen_of hb (off + 1)
  clear hb hfit
  go_enter Tryz.func131, Tryz.ntmps131
  go_wp2
  go_end0
  refine ⟨rfl, ?_⟩
  rw [cells_leI2]
  rfl

theorem WriteInt16_dies (a : Option Addr) (len cap : Nat) (x : Int) (w : World) (hnil : a = none → len = 0) (hs : len < 2) :
    Calls Tryz.prog 131 #[.slice a len cap, .int .i16 x] w (Dies w) := by
  obtain ⟨u, v, n, hrun⟩ := run_index_out (P := Tryz.prog) w 49 a len cap .i64 1 Tryz.underlying49 hnil (.inr (by omega))
  clear hnil hs
  go_enter Tryz.func131, Tryz.ntmps131
  go_wp2
  exact ⟨rfl, ⟨u, v, rfl⟩, n, rfl⟩

set_option maxHeartbeats 1000000 in
theorem WriteUint32_ok (b off len cap : Nat) (x : Int) (c : Array Value) (t : TypeId) (w : World) (hb : w.heap[b]? = some (.cells c t (0, 0))) (hfit : off + len ≤ c.size) (hs : 4 ≤ len) :
    Calls Tryz.prog 132 #[.slice (some ⟨b, off, none⟩) len cap, .int .u32 x] w fun e w' => e = .returned (.tuple #[]) ∧ w.setCells b off (cellsOf (leI 4 x)) = w' := by
  obtain ⟨x0, c0⟩ := cell_there hb (off) (by omega)
  have f0 := frozen_of hb (off)
  obtain ⟨x1, c1⟩ := cell_there hb (off + 1) (by omega)
  have f1 := frozen_of hb (off + 1)
  obtain ⟨x2, c2⟩ := cell_there hb (off + 2) (by omega)
  have f2 := frozen_of hb (off + 2)
  obtain ⟨x3, c3⟩ := cell_there hb (off + 3) (by omega)
  have f3 := frozen_of hb (off + 3)
  clear hb hfit
  go_enter Tryz.func132, Tryz.ntmps132
  go_wp2
  go_end0
  refine ⟨rfl, ?_⟩
  rw [cells_leI4]
  rfl

theorem WriteUint32_dies (a : Option Addr) (len cap : Nat) (x : Int) (w : World) (hnil : a = none → len = 0) (hs : len < 4) :
    Calls Tryz.prog 132 #[.slice a len cap, .int .u32 x] w (Dies w) := by
  obtain ⟨u, v, n, hrun⟩ := run_index_out (P := Tryz.prog) w 49 a len cap .i64 3 Tryz.underlying49 hnil (.inr (by omega))
  clear hnil hs
  go_enter Tryz.func132, Tryz.ntmps132
  go_wp2
  exact ⟨rfl, ⟨u, v, rfl⟩, n, rfl⟩

set_option maxHeartbeats 1000000 in
theorem WriteInt32_ok (b off len cap : Nat) (x : Int) (c : Array Value) (t : TypeId) (w : World) (hb : w.heap[b]? = some (.cells c t (0, 0))) (hfit : off + len ≤ c.size) (hs : 4 ≤ len) :
    Calls Tryz.prog 133 #[.slice (some ⟨b, off, none⟩) len cap, .int .i32 x] w fun e w' => e = .returned (.tuple #[]) ∧ w.setCells b off (cellsOf (leI 4 x)) = w' := by
  obtain ⟨x0, c0⟩ := cell_there hb (off) (by omega)
  have f0 := frozen_of hb (off)
  obtain ⟨x1, c1⟩ := cell_there hb (off + 1) (by omega)
  have f1 := frozen_of hb (off + 1)
  obtain ⟨x2, c2⟩ := cell_there hb (off + 2) (by omega)
  have f2 := frozen_of hb (off + 2)
  obtain ⟨x3, c3⟩ := cell_there hb (off + 3) (by omega)
  have f3 := frozen_of hb (off + 3)
  clear hb hfit
  go_enter Tryz.func133, Tryz.ntmps133
  go_wp2
  go_end0
  refine ⟨rfl, ?_⟩
  rw [cells_leI4]
  rfl

theorem WriteInt32_dies (a : Option Addr) (len cap : Nat) (x : Int) (w : World) (hnil : a = none → len = 0) (hs : len < 4) :
    Calls Tryz.prog 133 #[.slice a len cap, .int .i32 x] w (Dies w) := by
  obtain ⟨u, v, n, hrun⟩ := run_index_out (P := Tryz.prog) w 49 a len cap .i64 3 Tryz.underlying49 hnil (.inr (by omega))
  clear hnil hs
  go_enter Tryz.func133, Tryz.ntmps133
  go_wp2
  exact ⟨rfl, ⟨u, v, rfl⟩, n, rfl⟩

set_option maxHeartbeats 1000000 in
theorem WriteUint64_ok (b off len cap : Nat) (x : Int) (c : Array Value) (t : TypeId) (w : World) (hb : w.heap[b]? = some (.cells c t (0, 0))) (hfit : off + len ≤ c.size) (hs : 8 ≤ len) :
    Calls Tryz.prog 134 #[.slice (some ⟨b, off, none⟩) len cap, .int .u64 x] w fun e w' => e = .returned (.tuple #[]) ∧ w.setCells b off (cellsOf (leI 8 x)) = w' := by
  obtain ⟨x0, c0⟩ := cell_there hb (off) (by omega)
  have f0 := frozen_of hb (off)
  obtain ⟨x1, c1⟩ := cell_there hb (off + 1) (by omega)
  have f1 := frozen_of hb (off + 1)
  obtain ⟨x2, c2⟩ := cell_there hb (off + 2) (by omega)
  have f2 := frozen_of hb (off + 2)
  obtain ⟨x3, c3⟩ := cell_there hb (off + 3) (by omega)
  have f3 := frozen_of hb (off + 3)
  obtain ⟨x4, c4⟩ := cell_there hb (off + 4) (by omega)
  have f4 := frozen_of hb (off + 4)
  obtain ⟨x5, c5⟩ := cell_there hb (off + 5) (by omega)
  have f5 := frozen_of hb (off + 5)
  obtain ⟨x6, c6⟩ := cell_there hb (off + 6) (by omega)
  have f6 := frozen_of hb (off + 6)
  obtain ⟨x7, c7⟩ := cell_there hb (off + 7) (by omega)
  have f7 := frozen_of hb (off + 7)
  clear hb hfit
  go_enter Tryz.func134, Tryz.ntmps134
  go_wp2
  go_end0
  refine ⟨rfl, ?_⟩
  rw [cells_leI8]
  rfl

theorem WriteUint64_dies (a : Option Addr) (len cap : Nat) (x : Int) (w : World) (hnil : a = none → len = 0) (hs : len < 8) :
    Calls Tryz.prog 134 #[.slice a len cap, .int .u64 x] w (Dies w) := by
  obtain ⟨u, v, n, hrun⟩ := run_index_out (P := Tryz.prog) w 49 a len cap .i64 7 Tryz.underlying49 hnil (.inr (by omega))
  clear hnil hs
  go_enter Tryz.func134, Tryz.ntmps134
  go_wp2
  exact ⟨rfl, ⟨u, v, rfl⟩, n, rfl⟩

set_option maxHeartbeats 1000000 in
theorem WriteInt64_ok (b off len cap : Nat) (x : Int) (c : Array Value) (t : TypeId) (w : World) (hb : w.heap[b]? = some (.cells c t (0, 0))) (hfit : off + len ≤ c.size) (hs : 8 ≤ len) :
    Calls Tryz.prog 135 #[.slice (some ⟨b, off, none⟩) len cap, .int .i64 x] w fun e w' => e = .returned (.tuple #[]) ∧ w.setCells b off (cellsOf (leI 8 x)) = w' := by
  obtain ⟨x0, c0⟩ := cell_there hb (off) (by omega)
  have f0 := frozen_of hb (off)
  obtain ⟨x1, c1⟩ := cell_there hb (off + 1) (by omega)
  have f1 := frozen_of hb (off + 1)
  obtain ⟨x2, c2⟩ := cell_there hb (off + 2) (by omega)
  have f2 := frozen_of hb (off + 2)
  obtain ⟨x3, c3⟩ := cell_there hb (off + 3) (by omega)
  have f3 := frozen_of hb (off + 3)
  obtain ⟨x4, c4⟩ := cell_there hb (off + 4) (by omega)
  have f4 := frozen_of hb (off + 4)
  obtain ⟨x5, c5⟩ := cell_there hb (off + 5) (by omega)
  have f5 := frozen_of hb (off + 5)
  obtain ⟨x6, c6⟩ := cell_there hb (off + 6) (by omega)
  have f6 := frozen_of hb (off + 6)
  obtain ⟨x7, c7⟩ := cell_there hb (off + 7) (by omega)
  have f7 := frozen_of hb (off + 7)
  clear hb hfit
  go_enter Tryz.func135, Tryz.ntmps135
  go_wp2
  go_end0
  refine ⟨rfl, ?_⟩
  rw [cells_leI8]
  rfl

theorem WriteInt64_dies (a : Option Addr) (len cap : Nat) (x : Int) (w : World) (hnil : a = none → len = 0) (hs : len < 8) :
    Calls Tryz.prog 135 #[.slice a len cap, .int .i64 x] w (Dies w) := by
  obtain ⟨u, v, n, hrun⟩ := run_index_out (P := Tryz.prog) w 49 a len cap .i64 7 Tryz.underlying49 hnil (.inr (by omega))
  clear hnil hs
  go_enter Tryz.func135, Tryz.ntmps135
  go_wp2
  exact ⟨rfl, ⟨u, v, rfl⟩, n, rfl⟩

theorem WriteByte_ok (b off len cap : Nat) (x : Int) (c : Array Value) (t : TypeId) (w : World) (hb : w.heap[b]? = some (.cells c t (0, 0))) (hfit : off + len ≤ c.size) (hs : 1 ≤ len) (h0 : 0 ≤ x) (h1 : x < 256) :
    Calls Tryz.prog 126 #[.slice (some ⟨b, off, none⟩) len cap, .int .u8 x] w fun e w' => e = .returned (.tuple #[]) ∧ w.setCells b off (cellsOf (leI 1 x)) = w' := by
  have HC := Lib.hid (WriteUint8_ok b off len cap x c t w hb hfit hs h0 h1)
  clear hb hfit hs
  go_enter Tryz.func126, Tryz.ntmps126
  go_wp2_with (go_at_call 128; refine HC.out.mono ?_; rintro e w' ⟨rfl, rfl⟩)
  go_end0
  exact ⟨rfl, rfl⟩
theorem WriteByte_dies (a : Option Addr) (len cap : Nat) (x : Int) (w : World) (hnil : a = none → len = 0) (hs : len < 1) (h0 : 0 ≤ x) (h1 : x < 256) :
    Calls Tryz.prog 126 #[.slice a len cap, .int .u8 x] w (Dies w) := by
  have HC := Lib.hid (WriteUint8_dies a len cap x w hnil hs)
  clear hnil hs
  go_enter Tryz.func126, Tryz.ntmps126
  go_wp2_with (go_at_call 128; refine HC.out.mono ?_; rintro e w' ⟨⟨u, v, rfl⟩, n, rfl⟩)
  exact ⟨rfl, ⟨u, v, rfl⟩, n, rfl⟩

theorem WriteBool_ok (b off len cap : Nat) (x : Bool) (c : Array Value) (t : TypeId) (w : World) (hb : w.heap[b]? = some (.cells c t (0, 0))) (hfit : off + len ≤ c.size) (hs : 1 ≤ len) :
    Calls Tryz.prog 127 #[.slice (some ⟨b, off, none⟩) len cap, .bool x] w fun e w' => e = .returned (.tuple #[]) ∧ w.setCells b off (cellsOf (leI 1 (if x then 1 else 0))) = w' := by
  obtain ⟨x0, c0⟩ := cell_there hb off (by omega)
  have f0 := frozen_of hb off
  have hb2 : (w.setCell ⟨b, off, none⟩ (.int .u8 0)).setCell ⟨b, off, none⟩ (.int .u8 1) = w.setCell ⟨b, off, none⟩ (.int .u8 1) := setCell_setCell _ _ _ _
  have HB := Lib.hid hb2; clear hb2
  have c1 : (w.setCell ⟨b, off, none⟩ (.int .u8 0)).cell? ⟨b, off, none⟩ = some (.int .u8 0) := by
    rw [cell_of (heap_setCell_same hb off _)]
    have : off < c.size := by omega
    simp [this]
  clear hb hfit
  cases x
  · go_enter Tryz.func127, Tryz.ntmps127
    go_wp2
    go_end0
    exact ⟨rfl, by rw [cells_leI1]; rfl⟩
  · go_enter Tryz.func127, Tryz.ntmps127
    go_wp2
    go_end0
    refine ⟨rfl, ?_⟩
    rw [cells_leI1]
    exact HB.out.symm
theorem WriteBool_dies (a : Option Addr) (len cap : Nat) (x : Bool) (w : World) (hnil : a = none → len = 0) (hs : len < 1) :
    Calls Tryz.prog 127 #[.slice a len cap, .bool x] w (Dies w) := by
  obtain ⟨u, v, n, hrun⟩ := run_index_out (P := Tryz.prog) w 49 a len cap .i64 0 Tryz.underlying49 hnil (.inr (by omega))
  clear hnil hs
  go_enter Tryz.func127, Tryz.ntmps127
  go_wp2
  exact ⟨rfl, ⟨u, v, rfl⟩, n, rfl⟩

theorem WriteSOffsetT_ok (b off len cap : Nat) (x : Int) (c : Array Value) (t : TypeId) (w : World) (hb : w.heap[b]? = some (.cells c t (0, 0))) (hfit : off + len ≤ c.size) (hs : 4 ≤ len) :
    Calls Tryz.prog 122 #[.slice (some ⟨b, off, none⟩) len cap, .int .i32 x] w fun e w' => e = .returned (.tuple #[]) ∧ w.setCells b off (cellsOf (leI 4 x)) = w' := by
  have HC := Lib.hid (WriteInt32_ok b off len cap x c t w hb hfit hs)
  clear hb hfit hs
  go_enter Tryz.func122, Tryz.ntmps122
  go_wp2_with (go_at_call 133; refine HC.out.mono ?_; rintro e w' ⟨rfl, rfl⟩)
  go_end0
  exact ⟨rfl, rfl⟩
theorem WriteSOffsetT_dies (a : Option Addr) (len cap : Nat) (x : Int) (w : World) (hnil : a = none → len = 0) (hs : len < 4) :
    Calls Tryz.prog 122 #[.slice a len cap, .int .i32 x] w (Dies w) := by
  have HC := Lib.hid (WriteInt32_dies a len cap x w hnil hs)
  clear hnil hs
  go_enter Tryz.func122, Tryz.ntmps122
  go_wp2_with (go_at_call 133; refine HC.out.mono ?_; rintro e w' ⟨⟨u, v, rfl⟩, n, rfl⟩)
  exact ⟨rfl, ⟨u, v, rfl⟩, n, rfl⟩

theorem WriteUOffsetT_ok (b off len cap : Nat) (x : Int) (c : Array Value) (t : TypeId) (w : World) (hb : w.heap[b]? = some (.cells c t (0, 0))) (hfit : off + len ≤ c.size) (hs : 4 ≤ len) :
    Calls Tryz.prog 124 #[.slice (some ⟨b, off, none⟩) len cap, .int .u32 x] w fun e w' => e = .returned (.tuple #[]) ∧ w.setCells b off (cellsOf (leI 4 x)) = w' := by
  have HC := Lib.hid (WriteUint32_ok b off len cap x c t w hb hfit hs)
  clear hb hfit hs
  go_enter Tryz.func124, Tryz.ntmps124
  go_wp2_with (go_at_call 132; refine HC.out.mono ?_; rintro e w' ⟨rfl, rfl⟩)
  go_end0
  exact ⟨rfl, rfl⟩
theorem WriteUOffsetT_dies (a : Option Addr) (len cap : Nat) (x : Int) (w : World) (hnil : a = none → len = 0) (hs : len < 4) :
    Calls Tryz.prog 124 #[.slice a len cap, .int .u32 x] w (Dies w) := by
  have HC := Lib.hid (WriteUint32_dies a len cap x w hnil hs)
  clear hnil hs
  go_enter Tryz.func124, Tryz.ntmps124
  go_wp2_with (go_at_call 132; refine HC.out.mono ?_; rintro e w' ⟨⟨u, v, rfl⟩, n, rfl⟩)
  exact ⟨rfl, ⟨u, v, rfl⟩, n, rfl⟩

theorem WriteVOffsetT_ok (b off len cap : Nat) (x : Int) (c : Array Value) (t : TypeId) (w : World) (hb : w.heap[b]? = some (.cells c t (0, 0))) (hfit : off + len ≤ c.size) (hs : 2 ≤ len) :
    Calls Tryz.prog 125 #[.slice (some ⟨b, off, none⟩) len cap, .int .u16 x] w fun e w' => e = .returned (.tuple #[]) ∧ w.setCells b off (cellsOf (leI 2 x)) = w' := by
  have HC := Lib.hid (WriteUint16_ok b off len cap x c t w hb hfit hs)
  clear hb hfit hs
  go_enter Tryz.func125, Tryz.ntmps125
  go_wp2_with (go_at_call 130; refine HC.out.mono ?_; rintro e w' ⟨rfl, rfl⟩)
  go_end0
  exact ⟨rfl, rfl⟩
theorem WriteVOffsetT_dies (a : Option Addr) (len cap : Nat) (x : Int) (w : World) (hnil : a = none → len = 0) (hs : len < 2) :
    Calls Tryz.prog 125 #[.slice a len cap, .int .u16 x] w (Dies w) := by
  have HC := Lib.hid (WriteUint16_dies a len cap x w hnil hs)
  clear hnil hs
  go_enter Tryz.func125, Tryz.ntmps125
  go_wp2_with (go_at_call 130; refine HC.out.mono ?_; rintro e w' ⟨⟨u, v, rfl⟩, n, rfl⟩)
  exact ⟨rfl, ⟨u, v, rfl⟩, n, rfl⟩

theorem WriteFloat32_ok (b off len cap n : Nat) (c : Array Value) (t : TypeId) (w : World) (hb : w.heap[b]? = some (.cells c t (0, 0))) (hfit : off + len ≤ c.size) (hs : 4 ≤ len) :
    Calls Tryz.prog 136 #[.slice (some ⟨b, off, none⟩) len cap, .float .f32 n] w fun e w' => e = .returned (.tuple #[]) ∧ w.setCells b off (cellsOf (leI 4 n)) = w' := by
  have HC := Lib.hid (WriteUint32_ok b off len cap n c t w hb hfit hs)
  have hbits := run_f32bits
  clear hb hfit hs
  go_enter Tryz.func136, Tryz.ntmps136
  go_wp2_with (go_at_call 132; refine HC.out.mono ?_; rintro e w' ⟨rfl, rfl⟩)
  go_end0
  exact ⟨rfl, rfl⟩
theorem WriteFloat32_dies (a : Option Addr) (len cap n : Nat) (w : World) (hnil : a = none → len = 0) (hs : len < 4) :
    Calls Tryz.prog 136 #[.slice a len cap, .float .f32 n] w (Dies w) := by
  have HC := Lib.hid (WriteUint32_dies a len cap n w hnil hs)
  have hbits := run_f32bits
  clear hnil hs
  go_enter Tryz.func136, Tryz.ntmps136
  go_wp2_with (go_at_call 132; refine HC.out.mono ?_; rintro e w' ⟨⟨u, v, rfl⟩, n, rfl⟩)
  exact ⟨rfl, ⟨u, v, rfl⟩, n, rfl⟩

theorem WriteFloat64_ok (b off len cap n : Nat) (c : Array Value) (t : TypeId) (w : World) (hb : w.heap[b]? = some (.cells c t (0, 0))) (hfit : off + len ≤ c.size) (hs : 8 ≤ len) :
    Calls Tryz.prog 137 #[.slice (some ⟨b, off, none⟩) len cap, .float .f64 n] w fun e w' => e = .returned (.tuple #[]) ∧ w.setCells b off (cellsOf (leI 8 n)) = w' := by
  have HC := Lib.hid (WriteUint64_ok b off len cap n c t w hb hfit hs)
  have hbits := run_f64bits
  clear hb hfit hs
  go_enter Tryz.func137, Tryz.ntmps137
  go_wp2_with (go_at_call 134; refine HC.out.mono ?_; rintro e w' ⟨rfl, rfl⟩)
  go_end0
  exact ⟨rfl, rfl⟩
theorem WriteFloat64_dies (a : Option Addr) (len cap n : Nat) (w : World) (hnil : a = none → len = 0) (hs : len < 8) :
    Calls Tryz.prog 137 #[.slice a len cap, .float .f64 n] w (Dies w) := by
  have HC := Lib.hid (WriteUint64_dies a len cap n w hnil hs)
  have hbits := run_f64bits
  clear hnil hs
  go_enter Tryz.func137, Tryz.ntmps137
  go_wp2_with (go_at_call 134; refine HC.out.mono ?_; rintro e w' ⟨⟨u, v, rfl⟩, n, rfl⟩)
  exact ⟨rfl, ⟨u, v, rfl⟩, n, rfl⟩

end Go.Proofs.YtfplgggepoaajaaGreat
