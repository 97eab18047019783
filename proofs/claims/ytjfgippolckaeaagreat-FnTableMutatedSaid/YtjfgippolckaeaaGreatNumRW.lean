/- impl.numGet and impl.numWrite: a number of a kind is read of the first bytes of a slice, or written there; a panic where there are too few, or no such kind. -/
import Derived.Test.YtjfgippolckaeaaGreatGet
import Derived.Test.YtjfgippolckaeaaGreatWrite
namespace Go.Proofs.YtjfgippolckaeaaGreat
open Go.RowKit
set_option linter.unusedVariables false
set_option linter.unusedSimpArgs false


theorem kinds_of (k : Int) (h : 0 < numSize k) : k = 0 ∨ k = 1 ∨ k = 2 ∨ k = 3 ∨ k = 4 ∨ k = 5 ∨ k = 6 ∨ k = 7 ∨ k = 8 ∨ k = 9 ∨ k = 10 ∨ k = 32 ∨ k = 33 ∨ k = 34 ∨ k = 35 := by
  unfold numSize at h
  split at h
  · omega
  · split at h
    · omega
    · split at h
      · omega
      · split at h
        · omega
        · omega

theorem close8 (n : Nat) (h : n < 2 ^ 8) : IntKind.i8.wrap (n : Int) % 256 = n := by
  have := wrap_emod .i8 (n : Int)
  simp only [IntKind.bits] at this
  refine Eq.trans this ?_
  omega
theorem close16 (n : Nat) (h : n < 2 ^ 16) : IntKind.u64.wrap (IntKind.u16.wrap (IntKind.i16.wrap (n : Int))) = n := by
  have e : IntKind.u16.wrap (IntKind.i16.wrap (n : Int)) = n := by
    rw [wrap_congr .u16 (wrap_emod .i16 (n : Int))]
    exact IntWalk.u16_in _ (by omega)
  rw [e]; exact IntWalk.u64_in _ (by omega)
theorem close32 (n : Nat) (h : n < 2 ^ 32) : wrap32 (n : Int) % 4294967296 = n := by
  have := wrap_emod .i32 (n : Int)
  rw [IntWalk.i32_left] at this
  simp only [IntKind.bits] at this
  refine Eq.trans this ?_
  omega
theorem close64 (n : Nat) (h : n < 2 ^ 64) : IntKind.u64.wrap (wrap64 (n : Int)) = n := by
  have e : wrap64 (n : Int) = IntKind.i64.wrap n := (IntWalk.i64_left _).symm
  rw [e, wrap_congr .u64 (wrap_emod .i64 (n : Int))]
  exact IntWalk.u64_in _ (by omega)
theorem wb_mod (s n : Nat) (m : Int) (h : m = 2 ^ (8 * s)) : leI s ((n : Int) % m) = leB s n := by
  rw [← leI_nat]; exact leI_congr s (by rw [h, Int.emod_emod])
theorem wb_wrap (k : IntKind) (s n : Nat) (h : k.bits = 8 * s) : leI s (k.wrap (n : Int)) = leB s n := by
  rw [← leI_nat]; exact leI_congr s (by rw [← h, wrap_emod])
theorem wb_32 (n : Nat) : leI 4 (wrap32 (n : Int)) = leB 4 n := by rw [← IntWalk.i32_left]; exact wb_wrap .i32 4 n rfl
theorem wb_64 (n : Nat) : leI 8 (wrap64 (n : Int)) = leB 8 n := by rw [← IntWalk.i64_left]; exact wb_wrap .i64 8 n rfl
theorem wb_nat (s n : Nat) : leI s (n : Int) = leB s n := leI_nat s n
theorem numB_lit (k : Int) (s n : Nat) (hk : k ≠ 0) (hs : numSize k = s) : numB k n = leB s n := by simp [numB, hk, hs]

set_option maxHeartbeats 1000000 in
theorem numGet_0 (b off len cap : Nat) (l : List UInt8) (w : World) (hm : Mem w b off l) (hlen : l.length = len) (hs : 1 ≤ len) :
    Calls Tryz.prog 32 #[.int .u8 0, .slice (some ⟨b, off, none⟩) len cap] w fun e w' => e = .returned (.int .u64 (numVal 0 (le (l.take 1)))) ∧ w = w' := by
  have HC := Lib.hid (GetBool_ok b off len cap l w hm hlen hs)
  have hlt := le_take_lt l 1
  have hbits := run_f32bits
  have hbits2 := run_f64bits
  clear hm hlen hs
  go_enter Tryz.func32, Tryz.ntmps32
  go_wp2_with (first | (go_at_call 49; refine HC.out.mono ?_; rintro e w' ⟨rfl, rfl⟩) | (go_at_call 48; go_in))
  · have h : (((le (l.take 1) : Nat) : Int) == 1) = true := by assumption
    go_ret
    refine ⟨ret_int ?_, rfl⟩
    have h2 : le (l.take 1) = 1 := by have := of_decide_eq_true h; omega
    simp [numVal, h2]
  · have h : (((le (l.take 1) : Nat) : Int) == 1) = false := by assumption
    go_ret
    refine ⟨ret_int ?_, rfl⟩
    have h2 : ¬ le (l.take 1) = 1 := by intro e; rw [e] at h; simp at h
    simp [numVal, h2]

set_option maxHeartbeats 1000000 in
theorem numGet_0_dies (a : Option Addr) (len cap : Nat) (w : World) (hnil : a = none → len = 0) (hs : len < 1) :
    Calls Tryz.prog 32 #[.int .u8 0, .slice a len cap] w (Dies w) := by
  have HC := Lib.hid (GetBool_dies a len cap w hnil hs)
  clear hnil hs
  go_enter Tryz.func32, Tryz.ntmps32
  go_wp2_with (first | (go_at_call 49; refine HC.out.mono ?_; rintro e w' ⟨⟨u, v, rfl⟩, n, rfl⟩) | (go_at_call 48; go_in))
  exact ⟨rfl, ⟨u, v, rfl⟩, n, rfl⟩

set_option maxHeartbeats 1000000 in
theorem numWrite_0 (b off len cap n : Nat) (c : Array Value) (t : TypeId) (w : World) (hb : w.heap[b]? = some (.cells c t (0, 0))) (hfit : off + len ≤ c.size) (hs : 1 ≤ len) (hn : n < 2 ^ 64) :
    Calls Tryz.prog 34 #[.int .u8 0, .slice (some ⟨b, off, none⟩) len cap, .int .u64 n] w fun e w' => e = .returned (.tuple #[]) ∧ w.setCells b off (cellsOf (numB 0 n)) = w' := by
  have HC := Lib.hid (fun x => WriteBool_ok b off len cap x c t w hb hfit hs)
  have hfrom := run_f32from
  have hfrom2 := run_f64from
  clear hb hfit hs
  have hn1 : (n : Int) < 18446744073709551616 := by omega
  by_cases h0 : n = 0
  · subst h0
    go_enter Tryz.func34, Tryz.ntmps34
    go_wp2_with (first | (go_at_call 65; refine (HC.out _).mono ?_; rintro e w' ⟨rfl, rfl⟩) | (go_at_call 66; go_in))
    go_end0
    exact ⟨rfl, rfl⟩
  · have h1 : ((n : Int) != 0) = true := by simp; omega
    go_enter Tryz.func34, Tryz.ntmps34
    go_wp2_with (first | (go_at_call 65; refine (HC.out _).mono ?_; rintro e w' ⟨rfl, rfl⟩) | (go_at_call 66; go_in))
    go_end0
    refine ⟨rfl, congrArg (fun z => w.setCells b off (cellsOf z)) ?_⟩
    simp only [numB, h0, ne_eq, not_false_eq_true, and_self, if_true]
    rfl

set_option maxHeartbeats 1000000 in
theorem numWrite_0_dies (a : Option Addr) (len cap n : Nat) (w : World) (hnil : a = none → len = 0) (hs : len < 1) (hn : n < 2 ^ 64) :
    Calls Tryz.prog 34 #[.int .u8 0, .slice a len cap, .int .u64 n] w (Dies w) := by
  have HC := Lib.hid (fun x => WriteBool_dies a len cap x w hnil hs)
  have hfrom := run_f32from
  have hfrom2 := run_f64from
  have hn1 : (n : Int) < 18446744073709551616 := by omega
  clear hnil hs
  go_enter Tryz.func34, Tryz.ntmps34
  go_wp2_with (first | (go_at_call 65; refine (HC.out _).mono ?_; rintro e w' ⟨⟨u, v, rfl⟩, m, rfl⟩) | (go_at_call 66; go_in))
  exact ⟨rfl, ⟨u, v, rfl⟩, m, rfl⟩

set_option maxHeartbeats 1000000 in
theorem numGet_1 (b off len cap : Nat) (l : List UInt8) (w : World) (hm : Mem w b off l) (hlen : l.length = len) (hs : 1 ≤ len) :
    Calls Tryz.prog 32 #[.int .u8 1, .slice (some ⟨b, off, none⟩) len cap] w fun e w' => e = .returned (.int .u64 (numVal 1 (le (l.take 1)))) ∧ w = w' := by
  have HC := Lib.hid (GetUint8_ok b off len cap l w hm hlen hs)
  have hlt := le_take_lt l 1
  have hbits := run_f32bits
  have hbits2 := run_f64bits
  clear hm hlen hs
  go_enter Tryz.func32, Tryz.ntmps32
  go_wp2_with (first | (go_at_call 50; refine HC.out.mono ?_; rintro e w' ⟨rfl, rfl⟩) | (go_at_call 48; go_in))
  go_ret
  exact ⟨ret_int (rfl), rfl⟩

set_option maxHeartbeats 1000000 in
theorem numGet_1_dies (a : Option Addr) (len cap : Nat) (w : World) (hnil : a = none → len = 0) (hs : len < 1) :
    Calls Tryz.prog 32 #[.int .u8 1, .slice a len cap] w (Dies w) := by
  have HC := Lib.hid (GetUint8_dies a len cap w hnil hs)
  clear hnil hs
  go_enter Tryz.func32, Tryz.ntmps32
  go_wp2_with (first | (go_at_call 50; refine HC.out.mono ?_; rintro e w' ⟨⟨u, v, rfl⟩, n, rfl⟩) | (go_at_call 48; go_in))
  exact ⟨rfl, ⟨u, v, rfl⟩, n, rfl⟩

set_option maxHeartbeats 1000000 in
theorem numWrite_1 (b off len cap n : Nat) (c : Array Value) (t : TypeId) (w : World) (hb : w.heap[b]? = some (.cells c t (0, 0))) (hfit : off + len ≤ c.size) (hs : 1 ≤ len) (hn : n < 2 ^ 64) :
    Calls Tryz.prog 34 #[.int .u8 1, .slice (some ⟨b, off, none⟩) len cap, .int .u64 n] w fun e w' => e = .returned (.tuple #[]) ∧ w.setCells b off (cellsOf (numB 1 n)) = w' := by
  have HC := Lib.hid (fun x => WriteUint8_ok b off len cap x c t w hb hfit hs)
  have hfrom := run_f32from
  have hfrom2 := run_f64from
  clear hb hfit hs
  have hn1 : (n : Int) < 18446744073709551616 := by omega
  have hz0 : 0 ≤ (n : Int) % 256 := by omega
  have hz1 : (n : Int) % 256 < 256 := by omega
  go_enter Tryz.func34, Tryz.ntmps34
  go_wp2_with (first | (go_at_call 67; refine (HC.out _ hz0 hz1).mono ?_; rintro e w' ⟨rfl, rfl⟩) | (go_at_call 66; go_in))
  go_end0
  exact ⟨rfl, congrArg (fun z => w.setCells b off (cellsOf z)) ((numB_lit 1 1 n (by decide) (by simp [numSize])).trans (wb_mod 1 n 256 rfl).symm)⟩

set_option maxHeartbeats 1000000 in
theorem numWrite_1_dies (a : Option Addr) (len cap n : Nat) (w : World) (hnil : a = none → len = 0) (hs : len < 1) (hn : n < 2 ^ 64) :
    Calls Tryz.prog 34 #[.int .u8 1, .slice a len cap, .int .u64 n] w (Dies w) := by
  have HC := Lib.hid (fun x => WriteUint8_dies a len cap x w hnil hs)
  have hfrom := run_f32from
  have hfrom2 := run_f64from
  have hn1 : (n : Int) < 18446744073709551616 := by omega
  clear hnil hs
  go_enter Tryz.func34, Tryz.ntmps34
  go_wp2_with (first | (go_at_call 67; refine (HC.out _).mono ?_; rintro e w' ⟨⟨u, v, rfl⟩, m, rfl⟩) | (go_at_call 66; go_in))
  exact ⟨rfl, ⟨u, v, rfl⟩, m, rfl⟩

set_option maxHeartbeats 1000000 in
theorem numGet_2 (b off len cap : Nat) (l : List UInt8) (w : World) (hm : Mem w b off l) (hlen : l.length = len) (hs : 1 ≤ len) :
    Calls Tryz.prog 32 #[.int .u8 2, .slice (some ⟨b, off, none⟩) len cap] w fun e w' => e = .returned (.int .u64 (numVal 2 (le (l.take 1)))) ∧ w = w' := by
  have HC := Lib.hid (GetInt8_ok b off len cap l w hm hlen hs)
  have hlt := le_take_lt l 1
  have hbits := run_f32bits
  have hbits2 := run_f64bits
  clear hm hlen hs
  go_enter Tryz.func32, Tryz.ntmps32
  go_wp2_with (first | (go_at_call 51; refine HC.out.mono ?_; rintro e w' ⟨rfl, rfl⟩) | (go_at_call 48; go_in))
  go_ret
  exact ⟨ret_int (close8 _ hlt), rfl⟩

set_option maxHeartbeats 1000000 in
theorem numGet_2_dies (a : Option Addr) (len cap : Nat) (w : World) (hnil : a = none → len = 0) (hs : len < 1) :
    Calls Tryz.prog 32 #[.int .u8 2, .slice a len cap] w (Dies w) := by
  have HC := Lib.hid (GetInt8_dies a len cap w hnil hs)
  clear hnil hs
  go_enter Tryz.func32, Tryz.ntmps32
  go_wp2_with (first | (go_at_call 51; refine HC.out.mono ?_; rintro e w' ⟨⟨u, v, rfl⟩, n, rfl⟩) | (go_at_call 48; go_in))
  exact ⟨rfl, ⟨u, v, rfl⟩, n, rfl⟩

set_option maxHeartbeats 1000000 in
theorem numWrite_2 (b off len cap n : Nat) (c : Array Value) (t : TypeId) (w : World) (hb : w.heap[b]? = some (.cells c t (0, 0))) (hfit : off + len ≤ c.size) (hs : 1 ≤ len) (hn : n < 2 ^ 64) :
    Calls Tryz.prog 34 #[.int .u8 2, .slice (some ⟨b, off, none⟩) len cap, .int .u64 n] w fun e w' => e = .returned (.tuple #[]) ∧ w.setCells b off (cellsOf (numB 2 n)) = w' := by
  have HC := Lib.hid (fun x => WriteInt8_ok b off len cap x c t w hb hfit hs)
  have hfrom := run_f32from
  have hfrom2 := run_f64from
  clear hb hfit hs
  have hn1 : (n : Int) < 18446744073709551616 := by omega
  go_enter Tryz.func34, Tryz.ntmps34
  go_wp2_with (first | (go_at_call 68; refine (HC.out _).mono ?_; rintro e w' ⟨rfl, rfl⟩) | (go_at_call 66; go_in))
  go_end0
  exact ⟨rfl, congrArg (fun z => w.setCells b off (cellsOf z)) ((numB_lit 2 1 n (by decide) (by simp [numSize])).trans (wb_wrap .i8 1 n rfl).symm)⟩

set_option maxHeartbeats 1000000 in
theorem numWrite_2_dies (a : Option Addr) (len cap n : Nat) (w : World) (hnil : a = none → len = 0) (hs : len < 1) (hn : n < 2 ^ 64) :
    Calls Tryz.prog 34 #[.int .u8 2, .slice a len cap, .int .u64 n] w (Dies w) := by
  have HC := Lib.hid (fun x => WriteInt8_dies a len cap x w hnil hs)
  have hfrom := run_f32from
  have hfrom2 := run_f64from
  have hn1 : (n : Int) < 18446744073709551616 := by omega
  clear hnil hs
  go_enter Tryz.func34, Tryz.ntmps34
  go_wp2_with (first | (go_at_call 68; refine (HC.out _).mono ?_; rintro e w' ⟨⟨u, v, rfl⟩, m, rfl⟩) | (go_at_call 66; go_in))
  exact ⟨rfl, ⟨u, v, rfl⟩, m, rfl⟩

set_option maxHeartbeats 1000000 in
theorem numGet_3 (b off len cap : Nat) (l : List UInt8) (w : World) (hm : Mem w b off l) (hlen : l.length = len) (hs : 2 ≤ len) :
    Calls Tryz.prog 32 #[.int .u8 3, .slice (some ⟨b, off, none⟩) len cap] w fun e w' => e = .returned (.int .u64 (numVal 3 (le (l.take 2)))) ∧ w = w' := by
  have HC := Lib.hid (GetUint16_ok b off len cap l w hm hlen hs)
  have hlt := le_take_lt l 2
  have hbits := run_f32bits
  have hbits2 := run_f64bits
  clear hm hlen hs
  go_enter Tryz.func32, Tryz.ntmps32
  go_wp2_with (first | (go_at_call 52; refine HC.out.mono ?_; rintro e w' ⟨rfl, rfl⟩) | (go_at_call 48; go_in))
  go_ret
  exact ⟨ret_int (rfl), rfl⟩

set_option maxHeartbeats 1000000 in
theorem numGet_3_dies (a : Option Addr) (len cap : Nat) (w : World) (hnil : a = none → len = 0) (hs : len < 2) :
    Calls Tryz.prog 32 #[.int .u8 3, .slice a len cap] w (Dies w) := by
  have HC := Lib.hid (GetUint16_dies a len cap w hnil hs)
  clear hnil hs
  go_enter Tryz.func32, Tryz.ntmps32
  go_wp2_with (first | (go_at_call 52; refine HC.out.mono ?_; rintro e w' ⟨⟨u, v, rfl⟩, n, rfl⟩) | (go_at_call 48; go_in))
  exact ⟨rfl, ⟨u, v, rfl⟩, n, rfl⟩

set_option maxHeartbeats 1000000 in
theorem numWrite_3 (b off len cap n : Nat) (c : Array Value) (t : TypeId) (w : World) (hb : w.heap[b]? = some (.cells c t (0, 0))) (hfit : off + len ≤ c.size) (hs : 2 ≤ len) (hn : n < 2 ^ 64) :
    Calls Tryz.prog 34 #[.int .u8 3, .slice (some ⟨b, off, none⟩) len cap, .int .u64 n] w fun e w' => e = .returned (.tuple #[]) ∧ w.setCells b off (cellsOf (numB 3 n)) = w' := by
  have HC := Lib.hid (fun x => WriteUint16_ok b off len cap x c t w hb hfit hs)
  have hfrom := run_f32from
  have hfrom2 := run_f64from
  clear hb hfit hs
  have hn1 : (n : Int) < 18446744073709551616 := by omega
  go_enter Tryz.func34, Tryz.ntmps34
  go_wp2_with (first | (go_at_call 69; refine (HC.out _).mono ?_; rintro e w' ⟨rfl, rfl⟩) | (go_at_call 66; go_in))
  go_end0
  exact ⟨rfl, congrArg (fun z => w.setCells b off (cellsOf z)) ((numB_lit 3 2 n (by decide) (by simp [numSize])).trans (wb_wrap .u16 2 n rfl).symm)⟩

set_option maxHeartbeats 1000000 in
theorem numWrite_3_dies (a : Option Addr) (len cap n : Nat) (w : World) (hnil : a = none → len = 0) (hs : len < 2) (hn : n < 2 ^ 64) :
    Calls Tryz.prog 34 #[.int .u8 3, .slice a len cap, .int .u64 n] w (Dies w) := by
  have HC := Lib.hid (fun x => WriteUint16_dies a len cap x w hnil hs)
  have hfrom := run_f32from
  have hfrom2 := run_f64from
  have hn1 : (n : Int) < 18446744073709551616 := by omega
  clear hnil hs
  go_enter Tryz.func34, Tryz.ntmps34
  go_wp2_with (first | (go_at_call 69; refine (HC.out _).mono ?_; rintro e w' ⟨⟨u, v, rfl⟩, m, rfl⟩) | (go_at_call 66; go_in))
  exact ⟨rfl, ⟨u, v, rfl⟩, m, rfl⟩

set_option maxHeartbeats 1000000 in
theorem numGet_4 (b off len cap : Nat) (l : List UInt8) (w : World) (hm : Mem w b off l) (hlen : l.length = len) (hs : 2 ≤ len) :
    Calls Tryz.prog 32 #[.int .u8 4, .slice (some ⟨b, off, none⟩) len cap] w fun e w' => e = .returned (.int .u64 (numVal 4 (le (l.take 2)))) ∧ w = w' := by
  have HC := Lib.hid (GetInt16_ok b off len cap l w hm hlen hs)
  have hlt := le_take_lt l 2
  have hbits := run_f32bits
  have hbits2 := run_f64bits
  clear hm hlen hs
  go_enter Tryz.func32, Tryz.ntmps32
  go_wp2_with (first | (go_at_call 53; refine HC.out.mono ?_; rintro e w' ⟨rfl, rfl⟩) | (go_at_call 48; go_in))
  go_ret
  exact ⟨ret_int (close16 _ hlt), rfl⟩

set_option maxHeartbeats 1000000 in
theorem numGet_4_dies (a : Option Addr) (len cap : Nat) (w : World) (hnil : a = none → len = 0) (hs : len < 2) :
    Calls Tryz.prog 32 #[.int .u8 4, .slice a len cap] w (Dies w) := by
  have HC := Lib.hid (GetInt16_dies a len cap w hnil hs)
  clear hnil hs
  go_enter Tryz.func32, Tryz.ntmps32
  go_wp2_with (first | (go_at_call 53; refine HC.out.mono ?_; rintro e w' ⟨⟨u, v, rfl⟩, n, rfl⟩) | (go_at_call 48; go_in))
  exact ⟨rfl, ⟨u, v, rfl⟩, n, rfl⟩

set_option maxHeartbeats 1000000 in
theorem numWrite_4 (b off len cap n : Nat) (c : Array Value) (t : TypeId) (w : World) (hb : w.heap[b]? = some (.cells c t (0, 0))) (hfit : off + len ≤ c.size) (hs : 2 ≤ len) (hn : n < 2 ^ 64) :
    Calls Tryz.prog 34 #[.int .u8 4, .slice (some ⟨b, off, none⟩) len cap, .int .u64 n] w fun e w' => e = .returned (.tuple #[]) ∧ w.setCells b off (cellsOf (numB 4 n)) = w' := by
  have HC := Lib.hid (fun x => WriteInt16_ok b off len cap x c t w hb hfit hs)
  have hfrom := run_f32from
  have hfrom2 := run_f64from
  clear hb hfit hs
  have hn1 : (n : Int) < 18446744073709551616 := by omega
  go_enter Tryz.func34, Tryz.ntmps34
  go_wp2_with (first | (go_at_call 70; refine (HC.out _).mono ?_; rintro e w' ⟨rfl, rfl⟩) | (go_at_call 66; go_in))
  go_end0
  exact ⟨rfl, congrArg (fun z => w.setCells b off (cellsOf z)) ((numB_lit 4 2 n (by decide) (by simp [numSize])).trans (wb_wrap .i16 2 n rfl).symm)⟩

set_option maxHeartbeats 1000000 in
theorem numWrite_4_dies (a : Option Addr) (len cap n : Nat) (w : World) (hnil : a = none → len = 0) (hs : len < 2) (hn : n < 2 ^ 64) :
    Calls Tryz.prog 34 #[.int .u8 4, .slice a len cap, .int .u64 n] w (Dies w) := by
  have HC := Lib.hid (fun x => WriteInt16_dies a len cap x w hnil hs)
  have hfrom := run_f32from
  have hfrom2 := run_f64from
  have hn1 : (n : Int) < 18446744073709551616 := by omega
  clear hnil hs
  go_enter Tryz.func34, Tryz.ntmps34
  go_wp2_with (first | (go_at_call 70; refine (HC.out _).mono ?_; rintro e w' ⟨⟨u, v, rfl⟩, m, rfl⟩) | (go_at_call 66; go_in))
  exact ⟨rfl, ⟨u, v, rfl⟩, m, rfl⟩

set_option maxHeartbeats 1000000 in
theorem numGet_5 (b off len cap : Nat) (l : List UInt8) (w : World) (hm : Mem w b off l) (hlen : l.length = len) (hs : 4 ≤ len) :
    Calls Tryz.prog 32 #[.int .u8 5, .slice (some ⟨b, off, none⟩) len cap] w fun e w' => e = .returned (.int .u64 (numVal 5 (le (l.take 4)))) ∧ w = w' := by
  have HC := Lib.hid (GetUint32_ok b off len cap l w hm hlen hs)
  have hlt := le_take_lt l 4
  have hbits := run_f32bits
  have hbits2 := run_f64bits
  clear hm hlen hs
  go_enter Tryz.func32, Tryz.ntmps32
  go_wp2_with (first | (go_at_call 54; refine HC.out.mono ?_; rintro e w' ⟨rfl, rfl⟩) | (go_at_call 48; go_in))
  go_ret
  exact ⟨ret_int (rfl), rfl⟩

set_option maxHeartbeats 1000000 in
theorem numGet_5_dies (a : Option Addr) (len cap : Nat) (w : World) (hnil : a = none → len = 0) (hs : len < 4) :
    Calls Tryz.prog 32 #[.int .u8 5, .slice a len cap] w (Dies w) := by
  have HC := Lib.hid (GetUint32_dies a len cap w hnil hs)
  clear hnil hs
  go_enter Tryz.func32, Tryz.ntmps32
  go_wp2_with (first | (go_at_call 54; refine HC.out.mono ?_; rintro e w' ⟨⟨u, v, rfl⟩, n, rfl⟩) | (go_at_call 48; go_in))
  exact ⟨rfl, ⟨u, v, rfl⟩, n, rfl⟩

set_option maxHeartbeats 1000000 in
theorem numWrite_5 (b off len cap n : Nat) (c : Array Value) (t : TypeId) (w : World) (hb : w.heap[b]? = some (.cells c t (0, 0))) (hfit : off + len ≤ c.size) (hs : 4 ≤ len) (hn : n < 2 ^ 64) :
    Calls Tryz.prog 34 #[.int .u8 5, .slice (some ⟨b, off, none⟩) len cap, .int .u64 n] w fun e w' => e = .returned (.tuple #[]) ∧ w.setCells b off (cellsOf (numB 5 n)) = w' := by
  have HC := Lib.hid (fun x => WriteUint32_ok b off len cap x c t w hb hfit hs)
  have hfrom := run_f32from
  have hfrom2 := run_f64from
  clear hb hfit hs
  have hn1 : (n : Int) < 18446744073709551616 := by omega
  go_enter Tryz.func34, Tryz.ntmps34
  go_wp2_with (first | (go_at_call 71; refine (HC.out _).mono ?_; rintro e w' ⟨rfl, rfl⟩) | (go_at_call 66; go_in))
  go_end0
  exact ⟨rfl, congrArg (fun z => w.setCells b off (cellsOf z)) ((numB_lit 5 4 n (by decide) (by simp [numSize])).trans (wb_mod 4 n 4294967296 rfl).symm)⟩

set_option maxHeartbeats 1000000 in
theorem numWrite_5_dies (a : Option Addr) (len cap n : Nat) (w : World) (hnil : a = none → len = 0) (hs : len < 4) (hn : n < 2 ^ 64) :
    Calls Tryz.prog 34 #[.int .u8 5, .slice a len cap, .int .u64 n] w (Dies w) := by
  have HC := Lib.hid (fun x => WriteUint32_dies a len cap x w hnil hs)
  have hfrom := run_f32from
  have hfrom2 := run_f64from
  have hn1 : (n : Int) < 18446744073709551616 := by omega
  clear hnil hs
  go_enter Tryz.func34, Tryz.ntmps34
  go_wp2_with (first | (go_at_call 71; refine (HC.out _).mono ?_; rintro e w' ⟨⟨u, v, rfl⟩, m, rfl⟩) | (go_at_call 66; go_in))
  exact ⟨rfl, ⟨u, v, rfl⟩, m, rfl⟩

set_option maxHeartbeats 1000000 in
theorem numGet_6 (b off len cap : Nat) (l : List UInt8) (w : World) (hm : Mem w b off l) (hlen : l.length = len) (hs : 4 ≤ len) :
    Calls Tryz.prog 32 #[.int .u8 6, .slice (some ⟨b, off, none⟩) len cap] w fun e w' => e = .returned (.int .u64 (numVal 6 (le (l.take 4)))) ∧ w = w' := by
  have HC := Lib.hid (GetInt32_ok b off len cap l w hm hlen hs)
  have hlt := le_take_lt l 4
  have hbits := run_f32bits
  have hbits2 := run_f64bits
  clear hm hlen hs
  go_enter Tryz.func32, Tryz.ntmps32
  go_wp2_with (first | (go_at_call 55; refine HC.out.mono ?_; rintro e w' ⟨rfl, rfl⟩) | (go_at_call 48; go_in))
  go_ret
  exact ⟨ret_int (close32 _ hlt), rfl⟩

set_option maxHeartbeats 1000000 in
theorem numGet_6_dies (a : Option Addr) (len cap : Nat) (w : World) (hnil : a = none → len = 0) (hs : len < 4) :
    Calls Tryz.prog 32 #[.int .u8 6, .slice a len cap] w (Dies w) := by
  have HC := Lib.hid (GetInt32_dies a len cap w hnil hs)
  clear hnil hs
  go_enter Tryz.func32, Tryz.ntmps32
  go_wp2_with (first | (go_at_call 55; refine HC.out.mono ?_; rintro e w' ⟨⟨u, v, rfl⟩, n, rfl⟩) | (go_at_call 48; go_in))
  exact ⟨rfl, ⟨u, v, rfl⟩, n, rfl⟩

set_option maxHeartbeats 1000000 in
theorem numWrite_6 (b off len cap n : Nat) (c : Array Value) (t : TypeId) (w : World) (hb : w.heap[b]? = some (.cells c t (0, 0))) (hfit : off + len ≤ c.size) (hs : 4 ≤ len) (hn : n < 2 ^ 64) :
    Calls Tryz.prog 34 #[.int .u8 6, .slice (some ⟨b, off, none⟩) len cap, .int .u64 n] w fun e w' => e = .returned (.tuple #[]) ∧ w.setCells b off (cellsOf (numB 6 n)) = w' := by
  have HC := Lib.hid (fun x => WriteInt32_ok b off len cap x c t w hb hfit hs)
  have hfrom := run_f32from
  have hfrom2 := run_f64from
  clear hb hfit hs
  have hn1 : (n : Int) < 18446744073709551616 := by omega
  go_enter Tryz.func34, Tryz.ntmps34
  go_wp2_with (first | (go_at_call 72; refine (HC.out _).mono ?_; rintro e w' ⟨rfl, rfl⟩) | (go_at_call 66; go_in))
  go_end0
  exact ⟨rfl, congrArg (fun z => w.setCells b off (cellsOf z)) ((numB_lit 6 4 n (by decide) (by simp [numSize])).trans (wb_32 n).symm)⟩

set_option maxHeartbeats 1000000 in
theorem numWrite_6_dies (a : Option Addr) (len cap n : Nat) (w : World) (hnil : a = none → len = 0) (hs : len < 4) (hn : n < 2 ^ 64) :
    Calls Tryz.prog 34 #[.int .u8 6, .slice a len cap, .int .u64 n] w (Dies w) := by
  have HC := Lib.hid (fun x => WriteInt32_dies a len cap x w hnil hs)
  have hfrom := run_f32from
  have hfrom2 := run_f64from
  have hn1 : (n : Int) < 18446744073709551616 := by omega
  clear hnil hs
  go_enter Tryz.func34, Tryz.ntmps34
  go_wp2_with (first | (go_at_call 72; refine (HC.out _).mono ?_; rintro e w' ⟨⟨u, v, rfl⟩, m, rfl⟩) | (go_at_call 66; go_in))
  exact ⟨rfl, ⟨u, v, rfl⟩, m, rfl⟩

set_option maxHeartbeats 1000000 in
theorem numGet_7 (b off len cap : Nat) (l : List UInt8) (w : World) (hm : Mem w b off l) (hlen : l.length = len) (hs : 8 ≤ len) :
    Calls Tryz.prog 32 #[.int .u8 7, .slice (some ⟨b, off, none⟩) len cap] w fun e w' => e = .returned (.int .u64 (numVal 7 (le (l.take 8)))) ∧ w = w' := by
  have HC := Lib.hid (GetUint64_ok b off len cap l w hm hlen hs)
  have hlt := le_take_lt l 8
  have hbits := run_f32bits
  have hbits2 := run_f64bits
  clear hm hlen hs
  go_enter Tryz.func32, Tryz.ntmps32
  go_wp2_with (first | (go_at_call 56; refine HC.out.mono ?_; rintro e w' ⟨rfl, rfl⟩) | (go_at_call 48; go_in))
  go_ret
  exact ⟨ret_int (rfl), rfl⟩

set_option maxHeartbeats 1000000 in
theorem numGet_7_dies (a : Option Addr) (len cap : Nat) (w : World) (hnil : a = none → len = 0) (hs : len < 8) :
    Calls Tryz.prog 32 #[.int .u8 7, .slice a len cap] w (Dies w) := by
  have HC := Lib.hid (GetUint64_dies a len cap w hnil hs)
  clear hnil hs
  go_enter Tryz.func32, Tryz.ntmps32
  go_wp2_with (first | (go_at_call 56; refine HC.out.mono ?_; rintro e w' ⟨⟨u, v, rfl⟩, n, rfl⟩) | (go_at_call 48; go_in))
  exact ⟨rfl, ⟨u, v, rfl⟩, n, rfl⟩

set_option maxHeartbeats 1000000 in
theorem numWrite_7 (b off len cap n : Nat) (c : Array Value) (t : TypeId) (w : World) (hb : w.heap[b]? = some (.cells c t (0, 0))) (hfit : off + len ≤ c.size) (hs : 8 ≤ len) (hn : n < 2 ^ 64) :
    Calls Tryz.prog 34 #[.int .u8 7, .slice (some ⟨b, off, none⟩) len cap, .int .u64 n] w fun e w' => e = .returned (.tuple #[]) ∧ w.setCells b off (cellsOf (numB 7 n)) = w' := by
  have HC := Lib.hid (fun x => WriteUint64_ok b off len cap x c t w hb hfit hs)
  have hfrom := run_f32from
  have hfrom2 := run_f64from
  clear hb hfit hs
  have hn1 : (n : Int) < 18446744073709551616 := by omega
  go_enter Tryz.func34, Tryz.ntmps34
  go_wp2_with (first | (go_at_call 73; refine (HC.out _).mono ?_; rintro e w' ⟨rfl, rfl⟩) | (go_at_call 66; go_in))
  go_end0
  exact ⟨rfl, congrArg (fun z => w.setCells b off (cellsOf z)) ((numB_lit 7 8 n (by decide) (by simp [numSize])).trans (wb_nat 8 n).symm)⟩

set_option maxHeartbeats 1000000 in
theorem numWrite_7_dies (a : Option Addr) (len cap n : Nat) (w : World) (hnil : a = none → len = 0) (hs : len < 8) (hn : n < 2 ^ 64) :
    Calls Tryz.prog 34 #[.int .u8 7, .slice a len cap, .int .u64 n] w (Dies w) := by
  have HC := Lib.hid (fun x => WriteUint64_dies a len cap x w hnil hs)
  have hfrom := run_f32from
  have hfrom2 := run_f64from
  have hn1 : (n : Int) < 18446744073709551616 := by omega
  clear hnil hs
  go_enter Tryz.func34, Tryz.ntmps34
  go_wp2_with (first | (go_at_call 73; refine (HC.out _).mono ?_; rintro e w' ⟨⟨u, v, rfl⟩, m, rfl⟩) | (go_at_call 66; go_in))
  exact ⟨rfl, ⟨u, v, rfl⟩, m, rfl⟩

set_option maxHeartbeats 1000000 in
theorem numGet_8 (b off len cap : Nat) (l : List UInt8) (w : World) (hm : Mem w b off l) (hlen : l.length = len) (hs : 8 ≤ len) :
    Calls Tryz.prog 32 #[.int .u8 8, .slice (some ⟨b, off, none⟩) len cap] w fun e w' => e = .returned (.int .u64 (numVal 8 (le (l.take 8)))) ∧ w = w' := by
  have HC := Lib.hid (GetInt64_ok b off len cap l w hm hlen hs)
  have hlt := le_take_lt l 8
  have hbits := run_f32bits
  have hbits2 := run_f64bits
  clear hm hlen hs
  go_enter Tryz.func32, Tryz.ntmps32
  go_wp2_with (first | (go_at_call 57; refine HC.out.mono ?_; rintro e w' ⟨rfl, rfl⟩) | (go_at_call 48; go_in))
  go_ret
  exact ⟨ret_int (close64 _ hlt), rfl⟩

set_option maxHeartbeats 1000000 in
theorem numGet_8_dies (a : Option Addr) (len cap : Nat) (w : World) (hnil : a = none → len = 0) (hs : len < 8) :
    Calls Tryz.prog 32 #[.int .u8 8, .slice a len cap] w (Dies w) := by
  have HC := Lib.hid (GetInt64_dies a len cap w hnil hs)
  clear hnil hs
  go_enter Tryz.func32, Tryz.ntmps32
  go_wp2_with (first | (go_at_call 57; refine HC.out.mono ?_; rintro e w' ⟨⟨u, v, rfl⟩, n, rfl⟩) | (go_at_call 48; go_in))
  exact ⟨rfl, ⟨u, v, rfl⟩, n, rfl⟩

set_option maxHeartbeats 1000000 in
theorem numWrite_8 (b off len cap n : Nat) (c : Array Value) (t : TypeId) (w : World) (hb : w.heap[b]? = some (.cells c t (0, 0))) (hfit : off + len ≤ c.size) (hs : 8 ≤ len) (hn : n < 2 ^ 64) :
    Calls Tryz.prog 34 #[.int .u8 8, .slice (some ⟨b, off, none⟩) len cap, .int .u64 n] w fun e w' => e = .returned (.tuple #[]) ∧ w.setCells b off (cellsOf (numB 8 n)) = w' := by
  have HC := Lib.hid (fun x => WriteInt64_ok b off len cap x c t w hb hfit hs)
  have hfrom := run_f32from
  have hfrom2 := run_f64from
  clear hb hfit hs
  have hn1 : (n : Int) < 18446744073709551616 := by omega
  go_enter Tryz.func34, Tryz.ntmps34
  go_wp2_with (first | (go_at_call 74; refine (HC.out _).mono ?_; rintro e w' ⟨rfl, rfl⟩) | (go_at_call 66; go_in))
  go_end0
  exact ⟨rfl, congrArg (fun z => w.setCells b off (cellsOf z)) ((numB_lit 8 8 n (by decide) (by simp [numSize])).trans (wb_64 n).symm)⟩

set_option maxHeartbeats 1000000 in
theorem numWrite_8_dies (a : Option Addr) (len cap n : Nat) (w : World) (hnil : a = none → len = 0) (hs : len < 8) (hn : n < 2 ^ 64) :
    Calls Tryz.prog 34 #[.int .u8 8, .slice a len cap, .int .u64 n] w (Dies w) := by
  have HC := Lib.hid (fun x => WriteInt64_dies a len cap x w hnil hs)
  have hfrom := run_f32from
  have hfrom2 := run_f64from
  have hn1 : (n : Int) < 18446744073709551616 := by omega
  clear hnil hs
  go_enter Tryz.func34, Tryz.ntmps34
  go_wp2_with (first | (go_at_call 74; refine (HC.out _).mono ?_; rintro e w' ⟨⟨u, v, rfl⟩, m, rfl⟩) | (go_at_call 66; go_in))
  exact ⟨rfl, ⟨u, v, rfl⟩, m, rfl⟩

set_option maxHeartbeats 1000000 in
theorem numGet_9 (b off len cap : Nat) (l : List UInt8) (w : World) (hm : Mem w b off l) (hlen : l.length = len) (hs : 4 ≤ len) :
    Calls Tryz.prog 32 #[.int .u8 9, .slice (some ⟨b, off, none⟩) len cap] w fun e w' => e = .returned (.int .u64 (numVal 9 (le (l.take 4)))) ∧ w = w' := by
  have HC := Lib.hid (GetFloat32_ok b off len cap l w hm hlen hs)
  have hlt := le_take_lt l 4
  have hbits := run_f32bits
  have hbits2 := run_f64bits
  clear hm hlen hs
  go_enter Tryz.func32, Tryz.ntmps32
  go_wp2_with (first | (go_at_call 59; refine HC.out.mono ?_; rintro e w' ⟨rfl, rfl⟩) | (go_at_call 48; go_in))
  go_ret
  exact ⟨ret_int (rfl), rfl⟩

set_option maxHeartbeats 1000000 in
theorem numGet_9_dies (a : Option Addr) (len cap : Nat) (w : World) (hnil : a = none → len = 0) (hs : len < 4) :
    Calls Tryz.prog 32 #[.int .u8 9, .slice a len cap] w (Dies w) := by
  have HC := Lib.hid (GetFloat32_dies a len cap w hnil hs)
  clear hnil hs
  go_enter Tryz.func32, Tryz.ntmps32
  go_wp2_with (first | (go_at_call 59; refine HC.out.mono ?_; rintro e w' ⟨⟨u, v, rfl⟩, n, rfl⟩) | (go_at_call 48; go_in))
  exact ⟨rfl, ⟨u, v, rfl⟩, n, rfl⟩

set_option maxHeartbeats 1000000 in
theorem numWrite_9 (b off len cap n : Nat) (c : Array Value) (t : TypeId) (w : World) (hb : w.heap[b]? = some (.cells c t (0, 0))) (hfit : off + len ≤ c.size) (hs : 4 ≤ len) (hn : n < 2 ^ 64) :
    Calls Tryz.prog 34 #[.int .u8 9, .slice (some ⟨b, off, none⟩) len cap, .int .u64 n] w fun e w' => e = .returned (.tuple #[]) ∧ w.setCells b off (cellsOf (numB 9 n)) = w' := by
  have HC := Lib.hid (fun x => WriteFloat32_ok b off len cap x c t w hb hfit hs)
  have hfrom := run_f32from
  have hfrom2 := run_f64from
  clear hb hfit hs
  have hn1 : (n : Int) < 18446744073709551616 := by omega
  go_enter Tryz.func34, Tryz.ntmps34
  go_wp2_with (first | (go_at_call 75; refine (HC.out _).mono ?_; rintro e w' ⟨rfl, rfl⟩) | (go_at_call 66; go_in))
  go_end0
  exact ⟨rfl, congrArg (fun z => w.setCells b off (cellsOf z)) ((numB_lit 9 4 n (by decide) (by simp [numSize])).trans (wb_mod 4 n 4294967296 rfl).symm)⟩

set_option maxHeartbeats 1000000 in
theorem numWrite_9_dies (a : Option Addr) (len cap n : Nat) (w : World) (hnil : a = none → len = 0) (hs : len < 4) (hn : n < 2 ^ 64) :
    Calls Tryz.prog 34 #[.int .u8 9, .slice a len cap, .int .u64 n] w (Dies w) := by
  have HC := Lib.hid (fun x => WriteFloat32_dies a len cap x w hnil hs)
  have hfrom := run_f32from
  have hfrom2 := run_f64from
  have hn1 : (n : Int) < 18446744073709551616 := by omega
  clear hnil hs
  go_enter Tryz.func34, Tryz.ntmps34
  go_wp2_with (first | (go_at_call 75; refine (HC.out _).mono ?_; rintro e w' ⟨⟨u, v, rfl⟩, m, rfl⟩) | (go_at_call 66; go_in))
  exact ⟨rfl, ⟨u, v, rfl⟩, m, rfl⟩

set_option maxHeartbeats 1000000 in
theorem numGet_10 (b off len cap : Nat) (l : List UInt8) (w : World) (hm : Mem w b off l) (hlen : l.length = len) (hs : 8 ≤ len) :
    Calls Tryz.prog 32 #[.int .u8 10, .slice (some ⟨b, off, none⟩) len cap] w fun e w' => e = .returned (.int .u64 (numVal 10 (le (l.take 8)))) ∧ w = w' := by
  have HC := Lib.hid (GetFloat64_ok b off len cap l w hm hlen hs)
  have hlt := le_take_lt l 8
  have hbits := run_f32bits
  have hbits2 := run_f64bits
  clear hm hlen hs
  go_enter Tryz.func32, Tryz.ntmps32
  go_wp2_with (first | (go_at_call 61; refine HC.out.mono ?_; rintro e w' ⟨rfl, rfl⟩) | (go_at_call 48; go_in))
  go_ret
  exact ⟨ret_int (rfl), rfl⟩

set_option maxHeartbeats 1000000 in
theorem numGet_10_dies (a : Option Addr) (len cap : Nat) (w : World) (hnil : a = none → len = 0) (hs : len < 8) :
    Calls Tryz.prog 32 #[.int .u8 10, .slice a len cap] w (Dies w) := by
  have HC := Lib.hid (GetFloat64_dies a len cap w hnil hs)
  clear hnil hs
  go_enter Tryz.func32, Tryz.ntmps32
  go_wp2_with (first | (go_at_call 61; refine HC.out.mono ?_; rintro e w' ⟨⟨u, v, rfl⟩, n, rfl⟩) | (go_at_call 48; go_in))
  exact ⟨rfl, ⟨u, v, rfl⟩, n, rfl⟩

set_option maxHeartbeats 1000000 in
theorem numWrite_10 (b off len cap n : Nat) (c : Array Value) (t : TypeId) (w : World) (hb : w.heap[b]? = some (.cells c t (0, 0))) (hfit : off + len ≤ c.size) (hs : 8 ≤ len) (hn : n < 2 ^ 64) :
    Calls Tryz.prog 34 #[.int .u8 10, .slice (some ⟨b, off, none⟩) len cap, .int .u64 n] w fun e w' => e = .returned (.tuple #[]) ∧ w.setCells b off (cellsOf (numB 10 n)) = w' := by
  have HC := Lib.hid (fun x => WriteFloat64_ok b off len cap x c t w hb hfit hs)
  have hfrom := run_f32from
  have hfrom2 := run_f64from
  clear hb hfit hs
  have hn1 : (n : Int) < 18446744073709551616 := by omega
  go_enter Tryz.func34, Tryz.ntmps34
  go_wp2_with (first | (go_at_call 77; refine (HC.out _).mono ?_; rintro e w' ⟨rfl, rfl⟩) | (go_at_call 66; go_in))
  go_end0
  exact ⟨rfl, congrArg (fun z => w.setCells b off (cellsOf z)) ((numB_lit 10 8 n (by decide) (by simp [numSize])).trans (wb_nat 8 n).symm)⟩

set_option maxHeartbeats 1000000 in
theorem numWrite_10_dies (a : Option Addr) (len cap n : Nat) (w : World) (hnil : a = none → len = 0) (hs : len < 8) (hn : n < 2 ^ 64) :
    Calls Tryz.prog 34 #[.int .u8 10, .slice a len cap, .int .u64 n] w (Dies w) := by
  have HC := Lib.hid (fun x => WriteFloat64_dies a len cap x w hnil hs)
  have hfrom := run_f32from
  have hfrom2 := run_f64from
  have hn1 : (n : Int) < 18446744073709551616 := by omega
  clear hnil hs
  go_enter Tryz.func34, Tryz.ntmps34
  go_wp2_with (first | (go_at_call 77; refine (HC.out _).mono ?_; rintro e w' ⟨⟨u, v, rfl⟩, m, rfl⟩) | (go_at_call 66; go_in))
  exact ⟨rfl, ⟨u, v, rfl⟩, m, rfl⟩

set_option maxHeartbeats 1000000 in
theorem numGet_32 (b off len cap : Nat) (l : List UInt8) (w : World) (hm : Mem w b off l) (hlen : l.length = len) (hs : 1 ≤ len) :
    Calls Tryz.prog 32 #[.int .u8 32, .slice (some ⟨b, off, none⟩) len cap] w fun e w' => e = .returned (.int .u64 (numVal 32 (le (l.take 1)))) ∧ w = w' := by
  have HC := Lib.hid (GetByte_ok b off len cap l w hm hlen hs)
  have hlt := le_take_lt l 1
  have hbits := run_f32bits
  have hbits2 := run_f64bits
  clear hm hlen hs
  go_enter Tryz.func32, Tryz.ntmps32
  go_wp2_with (first | (go_at_call 62; refine HC.out.mono ?_; rintro e w' ⟨rfl, rfl⟩) | (go_at_call 48; go_in))
  go_ret
  exact ⟨ret_int (rfl), rfl⟩

set_option maxHeartbeats 1000000 in
theorem numGet_32_dies (a : Option Addr) (len cap : Nat) (w : World) (hnil : a = none → len = 0) (hs : len < 1) :
    Calls Tryz.prog 32 #[.int .u8 32, .slice a len cap] w (Dies w) := by
  have HC := Lib.hid (GetByte_dies a len cap w hnil hs)
  clear hnil hs
  go_enter Tryz.func32, Tryz.ntmps32
  go_wp2_with (first | (go_at_call 62; refine HC.out.mono ?_; rintro e w' ⟨⟨u, v, rfl⟩, n, rfl⟩) | (go_at_call 48; go_in))
  exact ⟨rfl, ⟨u, v, rfl⟩, n, rfl⟩

set_option maxHeartbeats 1000000 in
theorem numWrite_32 (b off len cap n : Nat) (c : Array Value) (t : TypeId) (w : World) (hb : w.heap[b]? = some (.cells c t (0, 0))) (hfit : off + len ≤ c.size) (hs : 1 ≤ len) (hn : n < 2 ^ 64) :
    Calls Tryz.prog 34 #[.int .u8 32, .slice (some ⟨b, off, none⟩) len cap, .int .u64 n] w fun e w' => e = .returned (.tuple #[]) ∧ w.setCells b off (cellsOf (numB 32 n)) = w' := by
  have HC := Lib.hid (fun x => WriteByte_ok b off len cap x c t w hb hfit hs)
  have hfrom := run_f32from
  have hfrom2 := run_f64from
  clear hb hfit hs
  have hn1 : (n : Int) < 18446744073709551616 := by omega
  have hz0 : 0 ≤ (n : Int) % 256 := by omega
  have hz1 : (n : Int) % 256 < 256 := by omega
  go_enter Tryz.func34, Tryz.ntmps34
  go_wp2_with (first | (go_at_call 79; refine (HC.out _ hz0 hz1).mono ?_; rintro e w' ⟨rfl, rfl⟩) | (go_at_call 66; go_in))
  go_end0
  exact ⟨rfl, congrArg (fun z => w.setCells b off (cellsOf z)) ((numB_lit 32 1 n (by decide) (by simp [numSize])).trans (wb_mod 1 n 256 rfl).symm)⟩

set_option maxHeartbeats 1000000 in
theorem numWrite_32_dies (a : Option Addr) (len cap n : Nat) (w : World) (hnil : a = none → len = 0) (hs : len < 1) (hn : n < 2 ^ 64) :
    Calls Tryz.prog 34 #[.int .u8 32, .slice a len cap, .int .u64 n] w (Dies w) := by
  have HC := Lib.hid (fun x => WriteByte_dies a len cap x w hnil hs)
  have hfrom := run_f32from
  have hfrom2 := run_f64from
  have hn1 : (n : Int) < 18446744073709551616 := by omega
  clear hnil hs
  have hz0 : 0 ≤ (n : Int) % 256 := by omega
  have hz1 : (n : Int) % 256 < 256 := by omega
  go_enter Tryz.func34, Tryz.ntmps34
  go_wp2_with (first | (go_at_call 79; refine (HC.out _ hz0 hz1).mono ?_; rintro e w' ⟨⟨u, v, rfl⟩, m, rfl⟩) | (go_at_call 66; go_in))
  exact ⟨rfl, ⟨u, v, rfl⟩, m, rfl⟩

set_option maxHeartbeats 1000000 in
theorem numGet_33 (b off len cap : Nat) (l : List UInt8) (w : World) (hm : Mem w b off l) (hlen : l.length = len) (hs : 4 ≤ len) :
    Calls Tryz.prog 32 #[.int .u8 33, .slice (some ⟨b, off, none⟩) len cap] w fun e w' => e = .returned (.int .u64 (numVal 33 (le (l.take 4)))) ∧ w = w' := by
  have HC := Lib.hid (GetSOffsetT_ok b off len cap l w hm hlen hs)
  have hlt := le_take_lt l 4
  have hbits := run_f32bits
  have hbits2 := run_f64bits
  clear hm hlen hs
  go_enter Tryz.func32, Tryz.ntmps32
  go_wp2_with (first | (go_at_call 63; refine HC.out.mono ?_; rintro e w' ⟨rfl, rfl⟩) | (go_at_call 48; go_in))
  go_ret
  exact ⟨ret_int (close32 _ hlt), rfl⟩

set_option maxHeartbeats 1000000 in
theorem numGet_33_dies (a : Option Addr) (len cap : Nat) (w : World) (hnil : a = none → len = 0) (hs : len < 4) :
    Calls Tryz.prog 32 #[.int .u8 33, .slice a len cap] w (Dies w) := by
  have HC := Lib.hid (GetSOffsetT_dies a len cap w hnil hs)
  clear hnil hs
  go_enter Tryz.func32, Tryz.ntmps32
  go_wp2_with (first | (go_at_call 63; refine HC.out.mono ?_; rintro e w' ⟨⟨u, v, rfl⟩, n, rfl⟩) | (go_at_call 48; go_in))
  exact ⟨rfl, ⟨u, v, rfl⟩, n, rfl⟩

set_option maxHeartbeats 1000000 in
theorem numWrite_33 (b off len cap n : Nat) (c : Array Value) (t : TypeId) (w : World) (hb : w.heap[b]? = some (.cells c t (0, 0))) (hfit : off + len ≤ c.size) (hs : 4 ≤ len) (hn : n < 2 ^ 64) :
    Calls Tryz.prog 34 #[.int .u8 33, .slice (some ⟨b, off, none⟩) len cap, .int .u64 n] w fun e w' => e = .returned (.tuple #[]) ∧ w.setCells b off (cellsOf (numB 33 n)) = w' := by
  have HC := Lib.hid (fun x => WriteSOffsetT_ok b off len cap x c t w hb hfit hs)
  have hfrom := run_f32from
  have hfrom2 := run_f64from
  clear hb hfit hs
  have hn1 : (n : Int) < 18446744073709551616 := by omega
  go_enter Tryz.func34, Tryz.ntmps34
  go_wp2_with (first | (go_at_call 80; refine (HC.out _).mono ?_; rintro e w' ⟨rfl, rfl⟩) | (go_at_call 66; go_in))
  go_end0
  exact ⟨rfl, congrArg (fun z => w.setCells b off (cellsOf z)) ((numB_lit 33 4 n (by decide) (by simp [numSize])).trans (wb_32 n).symm)⟩

set_option maxHeartbeats 1000000 in
theorem numWrite_33_dies (a : Option Addr) (len cap n : Nat) (w : World) (hnil : a = none → len = 0) (hs : len < 4) (hn : n < 2 ^ 64) :
    Calls Tryz.prog 34 #[.int .u8 33, .slice a len cap, .int .u64 n] w (Dies w) := by
  have HC := Lib.hid (fun x => WriteSOffsetT_dies a len cap x w hnil hs)
  have hfrom := run_f32from
  have hfrom2 := run_f64from
  have hn1 : (n : Int) < 18446744073709551616 := by omega
  clear hnil hs
  go_enter Tryz.func34, Tryz.ntmps34
  go_wp2_with (first | (go_at_call 80; refine (HC.out _).mono ?_; rintro e w' ⟨⟨u, v, rfl⟩, m, rfl⟩) | (go_at_call 66; go_in))
  exact ⟨rfl, ⟨u, v, rfl⟩, m, rfl⟩

set_option maxHeartbeats 1000000 in
theorem numGet_34 (b off len cap : Nat) (l : List UInt8) (w : World) (hm : Mem w b off l) (hlen : l.length = len) (hs : 4 ≤ len) :
    Calls Tryz.prog 32 #[.int .u8 34, .slice (some ⟨b, off, none⟩) len cap] w fun e w' => e = .returned (.int .u64 (numVal 34 (le (l.take 4)))) ∧ w = w' := by
  have HC := Lib.hid (GetUOffsetT_ok b off len cap l w hm hlen hs)
  have hlt := le_take_lt l 4
  have hbits := run_f32bits
  have hbits2 := run_f64bits
  clear hm hlen hs
  go_enter Tryz.func32, Tryz.ntmps32
  go_wp2_with (first | (go_at_call 47; refine HC.out.mono ?_; rintro e w' ⟨rfl, rfl⟩) | (go_at_call 48; go_in))
  go_ret
  exact ⟨ret_int (rfl), rfl⟩

set_option maxHeartbeats 1000000 in
theorem numGet_34_dies (a : Option Addr) (len cap : Nat) (w : World) (hnil : a = none → len = 0) (hs : len < 4) :
    Calls Tryz.prog 32 #[.int .u8 34, .slice a len cap] w (Dies w) := by
  have HC := Lib.hid (GetUOffsetT_dies a len cap w hnil hs)
  clear hnil hs
  go_enter Tryz.func32, Tryz.ntmps32
  go_wp2_with (first | (go_at_call 47; refine HC.out.mono ?_; rintro e w' ⟨⟨u, v, rfl⟩, n, rfl⟩) | (go_at_call 48; go_in))
  exact ⟨rfl, ⟨u, v, rfl⟩, n, rfl⟩

set_option maxHeartbeats 1000000 in
theorem numWrite_34 (b off len cap n : Nat) (c : Array Value) (t : TypeId) (w : World) (hb : w.heap[b]? = some (.cells c t (0, 0))) (hfit : off + len ≤ c.size) (hs : 4 ≤ len) (hn : n < 2 ^ 64) :
    Calls Tryz.prog 34 #[.int .u8 34, .slice (some ⟨b, off, none⟩) len cap, .int .u64 n] w fun e w' => e = .returned (.tuple #[]) ∧ w.setCells b off (cellsOf (numB 34 n)) = w' := by
  have HC := Lib.hid (fun x => WriteUOffsetT_ok b off len cap x c t w hb hfit hs)
  have hfrom := run_f32from
  have hfrom2 := run_f64from
  clear hb hfit hs
  have hn1 : (n : Int) < 18446744073709551616 := by omega
  go_enter Tryz.func34, Tryz.ntmps34
  go_wp2_with (first | (go_at_call 81; refine (HC.out _).mono ?_; rintro e w' ⟨rfl, rfl⟩) | (go_at_call 66; go_in))
  go_end0
  exact ⟨rfl, congrArg (fun z => w.setCells b off (cellsOf z)) ((numB_lit 34 4 n (by decide) (by simp [numSize])).trans (wb_mod 4 n 4294967296 rfl).symm)⟩

set_option maxHeartbeats 1000000 in
theorem numWrite_34_dies (a : Option Addr) (len cap n : Nat) (w : World) (hnil : a = none → len = 0) (hs : len < 4) (hn : n < 2 ^ 64) :
    Calls Tryz.prog 34 #[.int .u8 34, .slice a len cap, .int .u64 n] w (Dies w) := by
  have HC := Lib.hid (fun x => WriteUOffsetT_dies a len cap x w hnil hs)
  have hfrom := run_f32from
  have hfrom2 := run_f64from
  have hn1 : (n : Int) < 18446744073709551616 := by omega
  clear hnil hs
  go_enter Tryz.func34, Tryz.ntmps34
  go_wp2_with (first | (go_at_call 81; refine (HC.out _).mono ?_; rintro e w' ⟨⟨u, v, rfl⟩, m, rfl⟩) | (go_at_call 66; go_in))
  exact ⟨rfl, ⟨u, v, rfl⟩, m, rfl⟩

set_option maxHeartbeats 1000000 in
theorem numGet_35 (b off len cap : Nat) (l : List UInt8) (w : World) (hm : Mem w b off l) (hlen : l.length = len) (hs : 2 ≤ len) :
    Calls Tryz.prog 32 #[.int .u8 35, .slice (some ⟨b, off, none⟩) len cap] w fun e w' => e = .returned (.int .u64 (numVal 35 (le (l.take 2)))) ∧ w = w' := by
  have HC := Lib.hid (GetVOffsetT_ok b off len cap l w hm hlen hs)
  have hlt := le_take_lt l 2
  have hbits := run_f32bits
  have hbits2 := run_f64bits
  clear hm hlen hs
  go_enter Tryz.func32, Tryz.ntmps32
  go_wp2_with (first | (go_at_call 64; refine HC.out.mono ?_; rintro e w' ⟨rfl, rfl⟩) | (go_at_call 48; go_in))
  go_ret
  exact ⟨ret_int (rfl), rfl⟩

set_option maxHeartbeats 1000000 in
theorem numGet_35_dies (a : Option Addr) (len cap : Nat) (w : World) (hnil : a = none → len = 0) (hs : len < 2) :
    Calls Tryz.prog 32 #[.int .u8 35, .slice a len cap] w (Dies w) := by
  have HC := Lib.hid (GetVOffsetT_dies a len cap w hnil hs)
  clear hnil hs
  go_enter Tryz.func32, Tryz.ntmps32
  go_wp2_with (first | (go_at_call 64; refine HC.out.mono ?_; rintro e w' ⟨⟨u, v, rfl⟩, n, rfl⟩) | (go_at_call 48; go_in))
  exact ⟨rfl, ⟨u, v, rfl⟩, n, rfl⟩

set_option maxHeartbeats 1000000 in
theorem numWrite_35 (b off len cap n : Nat) (c : Array Value) (t : TypeId) (w : World) (hb : w.heap[b]? = some (.cells c t (0, 0))) (hfit : off + len ≤ c.size) (hs : 2 ≤ len) (hn : n < 2 ^ 64) :
    Calls Tryz.prog 34 #[.int .u8 35, .slice (some ⟨b, off, none⟩) len cap, .int .u64 n] w fun e w' => e = .returned (.tuple #[]) ∧ w.setCells b off (cellsOf (numB 35 n)) = w' := by
  have HC := Lib.hid (fun x => WriteVOffsetT_ok b off len cap x c t w hb hfit hs)
  have hfrom := run_f32from
  have hfrom2 := run_f64from
  clear hb hfit hs
  have hn1 : (n : Int) < 18446744073709551616 := by omega
  go_enter Tryz.func34, Tryz.ntmps34
  go_wp2_with (first | (go_at_call 82; refine (HC.out _).mono ?_; rintro e w' ⟨rfl, rfl⟩) | (go_at_call 66; go_in))
  go_end0
  exact ⟨rfl, congrArg (fun z => w.setCells b off (cellsOf z)) ((numB_lit 35 2 n (by decide) (by simp [numSize])).trans (wb_wrap .u16 2 n rfl).symm)⟩

set_option maxHeartbeats 1000000 in
theorem numWrite_35_dies (a : Option Addr) (len cap n : Nat) (w : World) (hnil : a = none → len = 0) (hs : len < 2) (hn : n < 2 ^ 64) :
    Calls Tryz.prog 34 #[.int .u8 35, .slice a len cap, .int .u64 n] w (Dies w) := by
  have HC := Lib.hid (fun x => WriteVOffsetT_dies a len cap x w hnil hs)
  have hfrom := run_f32from
  have hfrom2 := run_f64from
  have hn1 : (n : Int) < 18446744073709551616 := by omega
  clear hnil hs
  go_enter Tryz.func34, Tryz.ntmps34
  go_wp2_with (first | (go_at_call 82; refine (HC.out _).mono ?_; rintro e w' ⟨⟨u, v, rfl⟩, m, rfl⟩) | (go_at_call 66; go_in))
  exact ⟨rfl, ⟨u, v, rfl⟩, m, rfl⟩

theorem numGet_nokind (k : Int) (v : Value) (w : World) (h : numSize k = 0) :
    Calls Tryz.prog 32 #[.int .u8 k, v] w (Dies w) := by
  have h0 : (k == 0) = false := by rw [beq_eq_false_iff_ne]; intro e; subst e; simp [numSize] at h
  have h1 : (k == 1) = false := by rw [beq_eq_false_iff_ne]; intro e; subst e; simp [numSize] at h
  have h2 : (k == 2) = false := by rw [beq_eq_false_iff_ne]; intro e; subst e; simp [numSize] at h
  have h3 : (k == 3) = false := by rw [beq_eq_false_iff_ne]; intro e; subst e; simp [numSize] at h
  have h4 : (k == 4) = false := by rw [beq_eq_false_iff_ne]; intro e; subst e; simp [numSize] at h
  have h5 : (k == 5) = false := by rw [beq_eq_false_iff_ne]; intro e; subst e; simp [numSize] at h
  have h6 : (k == 6) = false := by rw [beq_eq_false_iff_ne]; intro e; subst e; simp [numSize] at h
  have h7 : (k == 7) = false := by rw [beq_eq_false_iff_ne]; intro e; subst e; simp [numSize] at h
  have h8 : (k == 8) = false := by rw [beq_eq_false_iff_ne]; intro e; subst e; simp [numSize] at h
  have h9 : (k == 9) = false := by rw [beq_eq_false_iff_ne]; intro e; subst e; simp [numSize] at h
  have h10 : (k == 10) = false := by rw [beq_eq_false_iff_ne]; intro e; subst e; simp [numSize] at h
  have h32 : (k == 32) = false := by rw [beq_eq_false_iff_ne]; intro e; subst e; simp [numSize] at h
  have h33 : (k == 33) = false := by rw [beq_eq_false_iff_ne]; intro e; subst e; simp [numSize] at h
  have h34 : (k == 34) = false := by rw [beq_eq_false_iff_ne]; intro e; subst e; simp [numSize] at h
  have h35 : (k == 35) = false := by rw [beq_eq_false_iff_ne]; intro e; subst e; simp [numSize] at h
  clear h
  go_enter Tryz.func32, Tryz.ntmps32
  go_wp2
  exact ⟨rfl, ⟨_, _, rfl⟩, 0, rfl⟩
theorem numWrite_nokind (k : Int) (v u : Value) (w : World) (h : numSize k = 0) :
    Calls Tryz.prog 34 #[.int .u8 k, v, u] w (Dies w) := by
  have h0 : (k == 0) = false := by rw [beq_eq_false_iff_ne]; intro e; subst e; simp [numSize] at h
  have h1 : (k == 1) = false := by rw [beq_eq_false_iff_ne]; intro e; subst e; simp [numSize] at h
  have h2 : (k == 2) = false := by rw [beq_eq_false_iff_ne]; intro e; subst e; simp [numSize] at h
  have h3 : (k == 3) = false := by rw [beq_eq_false_iff_ne]; intro e; subst e; simp [numSize] at h
  have h4 : (k == 4) = false := by rw [beq_eq_false_iff_ne]; intro e; subst e; simp [numSize] at h
  have h5 : (k == 5) = false := by rw [beq_eq_false_iff_ne]; intro e; subst e; simp [numSize] at h
  have h6 : (k == 6) = false := by rw [beq_eq_false_iff_ne]; intro e; subst e; simp [numSize] at h
  have h7 : (k == 7) = false := by rw [beq_eq_false_iff_ne]; intro e; subst e; simp [numSize] at h
  have h8 : (k == 8) = false := by rw [beq_eq_false_iff_ne]; intro e; subst e; simp [numSize] at h
  have h9 : (k == 9) = false := by rw [beq_eq_false_iff_ne]; intro e; subst e; simp [numSize] at h
  have h10 : (k == 10) = false := by rw [beq_eq_false_iff_ne]; intro e; subst e; simp [numSize] at h
  have h32 : (k == 32) = false := by rw [beq_eq_false_iff_ne]; intro e; subst e; simp [numSize] at h
  have h33 : (k == 33) = false := by rw [beq_eq_false_iff_ne]; intro e; subst e; simp [numSize] at h
  have h34 : (k == 34) = false := by rw [beq_eq_false_iff_ne]; intro e; subst e; simp [numSize] at h
  have h35 : (k == 35) = false := by rw [beq_eq_false_iff_ne]; intro e; subst e; simp [numSize] at h
  clear h
  go_enter Tryz.func34, Tryz.ntmps34
  go_wp2
  exact ⟨rfl, ⟨_, _, rfl⟩, 0, rfl⟩

theorem numGet_ok (k : Int) (b off len cap : Nat) (l : List UInt8) (w : World) (hk : 0 < numSize k) (hm : Mem w b off l) (hlen : l.length = len) (hs : numSize k ≤ len) :
    Calls Tryz.prog 32 #[.int .u8 k, .slice (some ⟨b, off, none⟩) len cap] w fun e w' => e = .returned (.int .u64 (numVal k (le (l.take (numSize k))))) ∧ w = w' := by
  rcases kinds_of k hk with rfl | rfl | rfl | rfl | rfl | rfl | rfl | rfl | rfl | rfl | rfl | rfl | rfl | rfl | rfl
  · exact numGet_0 b off len cap l w hm hlen hs
  · exact numGet_1 b off len cap l w hm hlen hs
  · exact numGet_2 b off len cap l w hm hlen hs
  · exact numGet_3 b off len cap l w hm hlen hs
  · exact numGet_4 b off len cap l w hm hlen hs
  · exact numGet_5 b off len cap l w hm hlen hs
  · exact numGet_6 b off len cap l w hm hlen hs
  · exact numGet_7 b off len cap l w hm hlen hs
  · exact numGet_8 b off len cap l w hm hlen hs
  · exact numGet_9 b off len cap l w hm hlen hs
  · exact numGet_10 b off len cap l w hm hlen hs
  · exact numGet_32 b off len cap l w hm hlen hs
  · exact numGet_33 b off len cap l w hm hlen hs
  · exact numGet_34 b off len cap l w hm hlen hs
  · exact numGet_35 b off len cap l w hm hlen hs
theorem numGet_dies (k : Int) (a : Option Addr) (len cap : Nat) (w : World) (hnil : a = none → len = 0) (hs : numSize k = 0 ∨ len < numSize k) :
    Calls Tryz.prog 32 #[.int .u8 k, .slice a len cap] w (Dies w) := by
  by_cases h0 : numSize k = 0
  · exact numGet_nokind k _ w h0
  · have hs2 := hs.resolve_left h0
    rcases kinds_of k (by omega) with rfl | rfl | rfl | rfl | rfl | rfl | rfl | rfl | rfl | rfl | rfl | rfl | rfl | rfl | rfl
    · exact numGet_0_dies a len cap w hnil hs2
    · exact numGet_1_dies a len cap w hnil hs2
    · exact numGet_2_dies a len cap w hnil hs2
    · exact numGet_3_dies a len cap w hnil hs2
    · exact numGet_4_dies a len cap w hnil hs2
    · exact numGet_5_dies a len cap w hnil hs2
    · exact numGet_6_dies a len cap w hnil hs2
    · exact numGet_7_dies a len cap w hnil hs2
    · exact numGet_8_dies a len cap w hnil hs2
    · exact numGet_9_dies a len cap w hnil hs2
    · exact numGet_10_dies a len cap w hnil hs2
    · exact numGet_32_dies a len cap w hnil hs2
    · exact numGet_33_dies a len cap w hnil hs2
    · exact numGet_34_dies a len cap w hnil hs2
    · exact numGet_35_dies a len cap w hnil hs2
theorem numWrite_ok (k : Int) (b off len cap n : Nat) (c : Array Value) (t : TypeId) (w : World) (hk : 0 < numSize k) (hb : w.heap[b]? = some (.cells c t (0, 0))) (hfit : off + len ≤ c.size) (hs : numSize k ≤ len) (hn : n < 2 ^ 64) :
    Calls Tryz.prog 34 #[.int .u8 k, .slice (some ⟨b, off, none⟩) len cap, .int .u64 n] w fun e w' => e = .returned (.tuple #[]) ∧ w.setCells b off (cellsOf (numB k n)) = w' := by
  rcases kinds_of k hk with rfl | rfl | rfl | rfl | rfl | rfl | rfl | rfl | rfl | rfl | rfl | rfl | rfl | rfl | rfl
  · exact numWrite_0 b off len cap n c t w hb hfit hs hn
  · exact numWrite_1 b off len cap n c t w hb hfit hs hn
  · exact numWrite_2 b off len cap n c t w hb hfit hs hn
  · exact numWrite_3 b off len cap n c t w hb hfit hs hn
  · exact numWrite_4 b off len cap n c t w hb hfit hs hn
  · exact numWrite_5 b off len cap n c t w hb hfit hs hn
  · exact numWrite_6 b off len cap n c t w hb hfit hs hn
  · exact numWrite_7 b off len cap n c t w hb hfit hs hn
  · exact numWrite_8 b off len cap n c t w hb hfit hs hn
  · exact numWrite_9 b off len cap n c t w hb hfit hs hn
  · exact numWrite_10 b off len cap n c t w hb hfit hs hn
  · exact numWrite_32 b off len cap n c t w hb hfit hs hn
  · exact numWrite_33 b off len cap n c t w hb hfit hs hn
  · exact numWrite_34 b off len cap n c t w hb hfit hs hn
  · exact numWrite_35 b off len cap n c t w hb hfit hs hn
theorem numWrite_dies (k : Int) (a : Option Addr) (len cap n : Nat) (w : World) (hnil : a = none → len = 0) (hs : numSize k = 0 ∨ len < numSize k) (hn : n < 2 ^ 64) :
    Calls Tryz.prog 34 #[.int .u8 k, .slice a len cap, .int .u64 n] w (Dies w) := by
  by_cases h0 : numSize k = 0
  · exact numWrite_nokind k _ _ w h0
  · have hs2 := hs.resolve_left h0
    rcases kinds_of k (by omega) with rfl | rfl | rfl | rfl | rfl | rfl | rfl | rfl | rfl | rfl | rfl | rfl | rfl | rfl | rfl
    · exact numWrite_0_dies a len cap n w hnil hs2 hn
    · exact numWrite_1_dies a len cap n w hnil hs2 hn
    · exact numWrite_2_dies a len cap n w hnil hs2 hn
    · exact numWrite_3_dies a len cap n w hnil hs2 hn
    · exact numWrite_4_dies a len cap n w hnil hs2 hn
    · exact numWrite_5_dies a len cap n w hnil hs2 hn
    · exact numWrite_6_dies a len cap n w hnil hs2 hn
    · exact numWrite_7_dies a len cap n w hnil hs2 hn
    · exact numWrite_8_dies a len cap n w hnil hs2 hn
    · exact numWrite_9_dies a len cap n w hnil hs2 hn
    · exact numWrite_10_dies a len cap n w hnil hs2 hn
    · exact numWrite_32_dies a len cap n w hnil hs2 hn
    · exact numWrite_33_dies a len cap n w hnil hs2 hn
    · exact numWrite_34_dies a len cap n w hnil hs2 hn
    · exact numWrite_35_dies a len cap n w hnil hs2 hn

end Go.Proofs.YtjfgippolckaeaaGreat
