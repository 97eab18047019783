/- impl.tableMutate and impl.tableMutateSlot: a number of a kind is written at a place, or in a field that is there. -/
import Derived.Test.YtjfgippolckaeaaGreatTabGet
namespace Go.Proofs.YtjfgippolckaeaaGreat
open Go.RowKit
set_option linter.unusedVariables false
set_option linter.unusedSimpArgs false
theorem WriteBoolN_ok (b off len cap : Nat) (x : Bool) (c : Array Value) (t : TypeId) (w : World) (hb : w.heap[b]? = some (.cells c t (0, 0))) (hfit : off + len ≤ c.size) (hs : 1 ≤ len) :
    Calls Tryz.prog 65 #[.slice (some ⟨b, off, none⟩) len cap, .bool x] w fun e w' => e = .returned (.tuple #[]) ∧ w.setCells b off (cellsOf (leI 1 (bint x))) = w' := by
  have e : ((bint x : Nat) : Int) = if x then 1 else 0 := by cases x <;> rfl
  rw [e]
  exact WriteBool_ok b off len cap x c t w hb hfit hs
theorem numB0 (n : Nat) : numB 0 n = leI 1 (bint (nz n)) := by
  by_cases h : n = 0
  · subst h; rfl
  · simp [numB, h, bint, nz]; rfl

set_option maxHeartbeats 2000000 in
theorem tableMutate_0 (T B pos off n : Nat) (l : List UInt8) (w : World) (hT : Tab w T B l pos) (h : off + 1 ≤ l.length) (hn : n < 2 ^ 64) :
    Calls Tryz.prog 45 #[.pointer (some ⟨T, 0, none⟩), .int .u8 0, .int .u32 off, .int .u64 n] w fun e w' => e = .returned (.bool true) ∧ w.setCells B off (cellsOf (numB 0 n)) = w' := by
  have hsl := run_slice_from (P := Tryz.prog) Tryz.underlying52 sizeU8 B 0 l.length l.length .u32 off off rfl (by omega)
  rw [sOff_lt (by omega), Nat.zero_add] at hsl
  have HC := Lib.hid (fun x nq => WriteBoolN_ok B off (l.length - off) (l.length - off) x _ _ (w.drewN nq) (hT.drewN nq).b (by simp [cellsOf]; omega) (by omega))
  have ht := hT.t
  have hfrom := run_f32from
  have hfrom2 := run_f64from
  have hn1 : (n : Int) < 18446744073709551616 := by omega
  have he : numB 0 n = _ := (numB0 n)
  rw [he]
  clear he hT h
  go_enter Tryz.func45, Tryz.ntmps45
  go_wp2_with (first | (go_at_call 65; refine (HC.out _ 0).mono ?_; rintro e w' ⟨rfl, rfl⟩) | (go_at_call 112; go_in) | (go_at_call 66; refine (truth_calls _ _).mono ?_; rintro e w' ⟨rfl, rfl⟩))
  go_ret
  exact ⟨rfl, rfl⟩

set_option maxHeartbeats 2000000 in
theorem tableMutate_0_dies (T B pos off n : Nat) (l : List UInt8) (w : World) (hT : Tab w T B l pos) (h : l.length < off + 1) (hn : n < 2 ^ 64) :
    Calls Tryz.prog 45 #[.pointer (some ⟨T, 0, none⟩), .int .u8 0, .int .u32 off, .int .u64 n] w (Dies w) := by
  have ht := hT.t
  have hfrom := run_f32from
  have hfrom2 := run_f64from
  have hn1 : (n : Int) < 18446744073709551616 := by omega
  by_cases h1 : off ≤ l.length
  · have hsl := run_slice_from (P := Tryz.prog) Tryz.underlying52 sizeU8 B 0 l.length l.length .u32 off off rfl h1
    have HC := Lib.hid (fun x nq => WriteBool_dies (some ⟨B, sOff 0 off l.length, none⟩) (l.length - off) (l.length - off) x (w.drewN nq) (by simp) (by omega))
    clear hT h h1
    go_enter Tryz.func45, Tryz.ntmps45
    go_wp2_with (first | (go_at_call 65; refine (HC.out _ 0).mono ?_; rintro e w' ⟨⟨u, x, rfl⟩, m, rfl⟩) | (go_at_call 112; go_in) | (go_at_call 66; refine (truth_calls _ _).mono ?_; rintro e w' ⟨rfl, rfl⟩))
    exact ⟨rfl, rfl, ⟨u, x, rfl⟩, m, rfl⟩
  · obtain ⟨u, x, m, hsl⟩ := run_slice_from_out (P := Tryz.prog) Tryz.underlying52 (some ⟨B, 0, none⟩) l.length l.length .u32 off (.inr (by omega)) w
    clear hT h h1
    go_enter Tryz.func45, Tryz.ntmps45
    go_wp2_with (first | (go_at_call 65; refine (HC.out _ 0).mono ?_; rintro e w' ⟨⟨u, x, rfl⟩, m, rfl⟩) | (go_at_call 112; go_in) | (go_at_call 66; refine (truth_calls _ _).mono ?_; rintro e w' ⟨rfl, rfl⟩))
    exact ⟨rfl, rfl, ⟨u, x, rfl⟩, m, rfl⟩

set_option maxHeartbeats 2000000 in
theorem tableMutateSlot_0_none (T B pos slot n : Nat) (l : List UInt8) (w : World) (hT : Tab w T B l pos) (hs : slot < 65536) (hn : n < 2 ^ 64) (h : mOffset l pos slot = some 0) :
    Calls Tryz.prog 46 #[.pointer (some ⟨T, 0, none⟩), .int .u8 0, .int .u16 slot, .int .u64 n] w fun e w' => e = .returned (.bool false) ∧ ∃ m, w' = w.drewN m := by
  have HO := Lib.hid (Offset_ok T B pos slot 0 l w hT hs h)
  have hfrom := run_f32from
  have hfrom2 := run_f64from
  have hn1 : (n : Int) < 18446744073709551616 := by omega
  clear hT h hs
  go_enter Tryz.func46, Tryz.ntmps46
  go_wp2_with (first | (go_at_call 65; fail) | (go_at_call 127; go_in) | (go_at_call 36; refine HO.out.mono ?_; rintro e w' ⟨rfl, nq, rfl⟩) | (go_at_call 112; go_in) | (go_at_call 66; refine (truth_calls _ _).mono ?_; rintro e w' ⟨rfl, rfl⟩))
  go_ret
  exact ⟨rfl, _, rfl⟩

set_option maxHeartbeats 2000000 in
theorem tableMutateSlot_0_dies (T B pos slot n : Nat) (l : List UInt8) (w : World) (hT : Tab w T B l pos) (hs : slot < 65536) (hn : n < 2 ^ 64) (h : mOffset l pos slot = none) :
    Calls Tryz.prog 46 #[.pointer (some ⟨T, 0, none⟩), .int .u8 0, .int .u16 slot, .int .u64 n] w (Dies w) := by
  have HO := Lib.hid (Offset_dies T B pos slot l w hT hs h)
  have hfrom := run_f32from
  have hfrom2 := run_f64from
  have hn1 : (n : Int) < 18446744073709551616 := by omega
  clear hT h hs
  go_enter Tryz.func46, Tryz.ntmps46
  go_wp2_with (first | (go_at_call 65; fail) | (go_at_call 127; go_in) | (go_at_call 36; refine HO.out.mono ?_; rintro e w' ⟨⟨u, x, rfl⟩, m, rfl⟩) | (go_at_call 112; go_in) | (go_at_call 66; refine (truth_calls _ _).mono ?_; rintro e w' ⟨rfl, rfl⟩))
  exact ⟨rfl, rfl, ⟨u, x, rfl⟩, m, rfl⟩

set_option maxHeartbeats 2000000 in
theorem tableMutateSlot_0_ok (T B pos slot n o : Nat) (l : List UInt8) (w : World) (hT : Tab w T B l pos) (hs : slot < 65536) (hn : n < 2 ^ 64) (h : mOffset l pos slot = some o) (ho : o ≠ 0) (hg : w32 (pos + o) + 1 ≤ l.length) :
    Calls Tryz.prog 46 #[.pointer (some ⟨T, 0, none⟩), .int .u8 0, .int .u16 slot, .int .u64 n] w fun e w' => e = .returned (.bool true) ∧ ∃ m, (w.drewN m).setCells B (w32 (pos + o)) (cellsOf (numB 0 n)) = w' := by
  have HO := Lib.hid (Offset_ok T B pos slot o l w hT hs h)
  have hob : ((o : Int) != 0) = true := by simp; omega
  have ho1 := mOffset_lt h
  have hsl := run_slice_from (P := Tryz.prog) Tryz.underlying52 sizeU8 B 0 l.length l.length .u32 (((pos : Int) + o) % 4294967296) (w32 (pos + o)) (by unfold w32; omega) (by omega)
  rw [sOff_lt (by omega), Nat.zero_add] at hsl
  have HC := Lib.hid (fun x nq => WriteBoolN_ok B (w32 (pos + o)) (l.length - w32 (pos + o)) (l.length - w32 (pos + o)) x _ _ (w.drewN nq) (hT.drewN nq).b (by simp [cellsOf]; omega) (by omega))
  have ht := hT.t
  have hp := hT.p
  have hfrom := run_f32from
  have hfrom2 := run_f64from
  have hn1 : (n : Int) < 18446744073709551616 := by omega
  have hp1 := hT.hp
  have he : numB 0 n = _ := (numB0 n)
  rw [he]
  clear he hT h hs hg ho
  generalize w32 (pos + o) = q at *
  go_enter Tryz.func46, Tryz.ntmps46
  go_wp2_with (first | (go_at_call 65; refine (HC.out _ _).mono ?_; rintro e w' ⟨rfl, rfl⟩) | (go_at_call 127; go_in) | (go_at_call 36; refine HO.out.mono ?_; rintro e w' ⟨rfl, nq, rfl⟩) | (go_at_call 112; go_in) | (go_at_call 66; refine (truth_calls _ _).mono ?_; rintro e w' ⟨rfl, rfl⟩))
  go_ret
  exact ⟨rfl, _, rfl⟩

set_option maxHeartbeats 2000000 in
theorem tableMutateSlot_0_out (T B pos slot n o : Nat) (l : List UInt8) (w : World) (hT : Tab w T B l pos) (hs : slot < 65536) (hn : n < 2 ^ 64) (h : mOffset l pos slot = some o) (ho : o ≠ 0) (hg : l.length < w32 (pos + o) + 1) :
    Calls Tryz.prog 46 #[.pointer (some ⟨T, 0, none⟩), .int .u8 0, .int .u16 slot, .int .u64 n] w (Dies w) := by
  have HO := Lib.hid (Offset_ok T B pos slot o l w hT hs h)
  have hob : ((o : Int) != 0) = true := by simp; omega
  have ho1 := mOffset_lt h
  have ht := hT.t
  have hp := hT.p
  have hp1 := hT.hp
  have hfrom := run_f32from
  have hfrom2 := run_f64from
  have hn1 : (n : Int) < 18446744073709551616 := by omega
  by_cases h1 : w32 (pos + o) ≤ l.length
  · have hsl := run_slice_from (P := Tryz.prog) Tryz.underlying52 sizeU8 B 0 l.length l.length .u32 (((pos : Int) + o) % 4294967296) (w32 (pos + o)) (by unfold w32; omega) h1
    have HC := Lib.hid (fun x nq => WriteBool_dies (some ⟨B, sOff 0 (w32 (pos + o)) l.length, none⟩) (l.length - w32 (pos + o)) (l.length - w32 (pos + o)) x (w.drewN nq) (by simp) (by omega))
    clear hT h hs hg h1 ho
    generalize w32 (pos + o) = q at *
    go_enter Tryz.func46, Tryz.ntmps46
    go_wp2_with (first | (go_at_call 65; refine (HC.out _ _).mono ?_; rintro e w' ⟨⟨u, x, rfl⟩, m, rfl⟩) | (go_at_call 127; go_in) | (go_at_call 36; refine HO.out.mono ?_; rintro e w' ⟨rfl, nq, rfl⟩) | (go_at_call 112; go_in) | (go_at_call 66; refine (truth_calls _ _).mono ?_; rintro e w' ⟨rfl, rfl⟩))
    exact ⟨rfl, rfl, rfl, ⟨u, x, rfl⟩, _, rfl⟩
  · have hsl := fun w => run_slice_from_out (P := Tryz.prog) Tryz.underlying52 (some ⟨B, 0, none⟩) l.length l.length .u32 (((pos : Int) + o) % 4294967296) (.inr (by unfold w32 at h1; omega)) w
    have HS := Lib.hid hsl; clear hsl
    clear hT h hs hg h1 ho
    go_enter Tryz.func46, Tryz.ntmps46
    go_wp2_with (first | (go_at_call 65; fail) | (go_at_call 127; go_in) | (go_at_call 36; refine HO.out.mono ?_; rintro e w' ⟨rfl, nq, rfl⟩; obtain ⟨u, x, m, hsl⟩ := HS.out (w.drewN nq)) | (go_at_call 112; go_in) | (go_at_call 66; refine (truth_calls _ _).mono ?_; rintro e w' ⟨rfl, rfl⟩))
    exact ⟨rfl, rfl, rfl, ⟨u, x, rfl⟩, _, rfl⟩

set_option maxHeartbeats 2000000 in
theorem tableMutate_1 (T B pos off n : Nat) (l : List UInt8) (w : World) (hT : Tab w T B l pos) (h : off + 1 ≤ l.length) (hn : n < 2 ^ 64) :
    Calls Tryz.prog 45 #[.pointer (some ⟨T, 0, none⟩), .int .u8 1, .int .u32 off, .int .u64 n] w fun e w' => e = .returned (.bool true) ∧ w.setCells B off (cellsOf (numB 1 n)) = w' := by
  have hsl := run_slice_from (P := Tryz.prog) Tryz.underlying52 sizeU8 B 0 l.length l.length .u32 off off rfl (by omega)
  rw [sOff_lt (by omega), Nat.zero_add] at hsl
  have HC := Lib.hid (fun x nq => WriteUint8_ok B off (l.length - off) (l.length - off) x _ _ (w.drewN nq) (hT.drewN nq).b (by simp [cellsOf]; omega) (by omega))
  have ht := hT.t
  have hfrom := run_f32from
  have hfrom2 := run_f64from
  have hn1 : (n : Int) < 18446744073709551616 := by omega
  have hz0 : 0 ≤ (n : Int) % 256 := by omega
  have hz1 : (n : Int) % 256 < 256 := by omega
  have he : numB 1 n = _ := ((numB_lit 1 1 n (by decide) (by simp [numSize])).trans (wb_mod 1 n 256 rfl).symm)
  rw [he]
  clear he hT h
  go_enter Tryz.func45, Tryz.ntmps45
  go_wp2_with (first | (go_at_call 67; refine (HC.out _ 0 hz0 hz1).mono ?_; rintro e w' ⟨rfl, rfl⟩) | (go_at_call 113; go_in))
  go_ret
  exact ⟨rfl, rfl⟩

set_option maxHeartbeats 2000000 in
theorem tableMutate_1_dies (T B pos off n : Nat) (l : List UInt8) (w : World) (hT : Tab w T B l pos) (h : l.length < off + 1) (hn : n < 2 ^ 64) :
    Calls Tryz.prog 45 #[.pointer (some ⟨T, 0, none⟩), .int .u8 1, .int .u32 off, .int .u64 n] w (Dies w) := by
  have ht := hT.t
  have hfrom := run_f32from
  have hfrom2 := run_f64from
  have hn1 : (n : Int) < 18446744073709551616 := by omega
  have hz0 : 0 ≤ (n : Int) % 256 := by omega
  have hz1 : (n : Int) % 256 < 256 := by omega
  by_cases h1 : off ≤ l.length
  · have hsl := run_slice_from (P := Tryz.prog) Tryz.underlying52 sizeU8 B 0 l.length l.length .u32 off off rfl h1
    have HC := Lib.hid (fun x nq => WriteUint8_dies (some ⟨B, sOff 0 off l.length, none⟩) (l.length - off) (l.length - off) x (w.drewN nq) (by simp) (by omega))
    clear hT h h1
    go_enter Tryz.func45, Tryz.ntmps45
    go_wp2_with (first | (go_at_call 67; refine (HC.out _ 0).mono ?_; rintro e w' ⟨⟨u, x, rfl⟩, m, rfl⟩) | (go_at_call 113; go_in))
    exact ⟨rfl, rfl, ⟨u, x, rfl⟩, m, rfl⟩
  · obtain ⟨u, x, m, hsl⟩ := run_slice_from_out (P := Tryz.prog) Tryz.underlying52 (some ⟨B, 0, none⟩) l.length l.length .u32 off (.inr (by omega)) w
    clear hT h h1
    go_enter Tryz.func45, Tryz.ntmps45
    go_wp2_with (first | (go_at_call 67; refine (HC.out _ 0).mono ?_; rintro e w' ⟨⟨u, x, rfl⟩, m, rfl⟩) | (go_at_call 113; go_in))
    exact ⟨rfl, rfl, ⟨u, x, rfl⟩, m, rfl⟩

set_option maxHeartbeats 2000000 in
theorem tableMutateSlot_1_none (T B pos slot n : Nat) (l : List UInt8) (w : World) (hT : Tab w T B l pos) (hs : slot < 65536) (hn : n < 2 ^ 64) (h : mOffset l pos slot = some 0) :
    Calls Tryz.prog 46 #[.pointer (some ⟨T, 0, none⟩), .int .u8 1, .int .u16 slot, .int .u64 n] w fun e w' => e = .returned (.bool false) ∧ ∃ m, w' = w.drewN m := by
  have HO := Lib.hid (Offset_ok T B pos slot 0 l w hT hs h)
  have hfrom := run_f32from
  have hfrom2 := run_f64from
  have hn1 : (n : Int) < 18446744073709551616 := by omega
  clear hT h hs
  go_enter Tryz.func46, Tryz.ntmps46
  go_wp2_with (first | (go_at_call 67; fail) | (go_at_call 128; go_in) | (go_at_call 36; refine HO.out.mono ?_; rintro e w' ⟨rfl, nq, rfl⟩) | (go_at_call 113; go_in))
  go_ret
  exact ⟨rfl, _, rfl⟩

set_option maxHeartbeats 2000000 in
theorem tableMutateSlot_1_dies (T B pos slot n : Nat) (l : List UInt8) (w : World) (hT : Tab w T B l pos) (hs : slot < 65536) (hn : n < 2 ^ 64) (h : mOffset l pos slot = none) :
    Calls Tryz.prog 46 #[.pointer (some ⟨T, 0, none⟩), .int .u8 1, .int .u16 slot, .int .u64 n] w (Dies w) := by
  have HO := Lib.hid (Offset_dies T B pos slot l w hT hs h)
  have hfrom := run_f32from
  have hfrom2 := run_f64from
  have hn1 : (n : Int) < 18446744073709551616 := by omega
  clear hT h hs
  go_enter Tryz.func46, Tryz.ntmps46
  go_wp2_with (first | (go_at_call 67; fail) | (go_at_call 128; go_in) | (go_at_call 36; refine HO.out.mono ?_; rintro e w' ⟨⟨u, x, rfl⟩, m, rfl⟩) | (go_at_call 113; go_in))
  exact ⟨rfl, rfl, ⟨u, x, rfl⟩, m, rfl⟩

set_option maxHeartbeats 2000000 in
theorem tableMutateSlot_1_ok (T B pos slot n o : Nat) (l : List UInt8) (w : World) (hT : Tab w T B l pos) (hs : slot < 65536) (hn : n < 2 ^ 64) (h : mOffset l pos slot = some o) (ho : o ≠ 0) (hg : w32 (pos + o) + 1 ≤ l.length) :
    Calls Tryz.prog 46 #[.pointer (some ⟨T, 0, none⟩), .int .u8 1, .int .u16 slot, .int .u64 n] w fun e w' => e = .returned (.bool true) ∧ ∃ m, (w.drewN m).setCells B (w32 (pos + o)) (cellsOf (numB 1 n)) = w' := by
  have HO := Lib.hid (Offset_ok T B pos slot o l w hT hs h)
  have hob : ((o : Int) != 0) = true := by simp; omega
  have ho1 := mOffset_lt h
  have hsl := run_slice_from (P := Tryz.prog) Tryz.underlying52 sizeU8 B 0 l.length l.length .u32 (((pos : Int) + o) % 4294967296) (w32 (pos + o)) (by unfold w32; omega) (by omega)
  rw [sOff_lt (by omega), Nat.zero_add] at hsl
  have HC := Lib.hid (fun x nq => WriteUint8_ok B (w32 (pos + o)) (l.length - w32 (pos + o)) (l.length - w32 (pos + o)) x _ _ (w.drewN nq) (hT.drewN nq).b (by simp [cellsOf]; omega) (by omega))
  have ht := hT.t
  have hp := hT.p
  have hfrom := run_f32from
  have hfrom2 := run_f64from
  have hn1 : (n : Int) < 18446744073709551616 := by omega
  have hp1 := hT.hp
  have hz0 : 0 ≤ (n : Int) % 256 := by omega
  have hz1 : (n : Int) % 256 < 256 := by omega
  have he : numB 1 n = _ := ((numB_lit 1 1 n (by decide) (by simp [numSize])).trans (wb_mod 1 n 256 rfl).symm)
  rw [he]
  clear he hT h hs hg ho
  generalize w32 (pos + o) = q at *
  go_enter Tryz.func46, Tryz.ntmps46
  go_wp2_with (first | (go_at_call 67; refine (HC.out _ _ hz0 hz1).mono ?_; rintro e w' ⟨rfl, rfl⟩) | (go_at_call 128; go_in) | (go_at_call 36; refine HO.out.mono ?_; rintro e w' ⟨rfl, nq, rfl⟩) | (go_at_call 113; go_in))
  go_ret
  exact ⟨rfl, _, rfl⟩

set_option maxHeartbeats 2000000 in
theorem tableMutateSlot_1_out (T B pos slot n o : Nat) (l : List UInt8) (w : World) (hT : Tab w T B l pos) (hs : slot < 65536) (hn : n < 2 ^ 64) (h : mOffset l pos slot = some o) (ho : o ≠ 0) (hg : l.length < w32 (pos + o) + 1) :
    Calls Tryz.prog 46 #[.pointer (some ⟨T, 0, none⟩), .int .u8 1, .int .u16 slot, .int .u64 n] w (Dies w) := by
  have HO := Lib.hid (Offset_ok T B pos slot o l w hT hs h)
  have hob : ((o : Int) != 0) = true := by simp; omega
  have ho1 := mOffset_lt h
  have ht := hT.t
  have hp := hT.p
  have hp1 := hT.hp
  have hfrom := run_f32from
  have hfrom2 := run_f64from
  have hn1 : (n : Int) < 18446744073709551616 := by omega
  have hz0 : 0 ≤ (n : Int) % 256 := by omega
  have hz1 : (n : Int) % 256 < 256 := by omega
  by_cases h1 : w32 (pos + o) ≤ l.length
  · have hsl := run_slice_from (P := Tryz.prog) Tryz.underlying52 sizeU8 B 0 l.length l.length .u32 (((pos : Int) + o) % 4294967296) (w32 (pos + o)) (by unfold w32; omega) h1
    have HC := Lib.hid (fun x nq => WriteUint8_dies (some ⟨B, sOff 0 (w32 (pos + o)) l.length, none⟩) (l.length - w32 (pos + o)) (l.length - w32 (pos + o)) x (w.drewN nq) (by simp) (by omega))
    clear hT h hs hg h1 ho
    generalize w32 (pos + o) = q at *
    go_enter Tryz.func46, Tryz.ntmps46
    go_wp2_with (first | (go_at_call 67; refine (HC.out _ _).mono ?_; rintro e w' ⟨⟨u, x, rfl⟩, m, rfl⟩) | (go_at_call 128; go_in) | (go_at_call 36; refine HO.out.mono ?_; rintro e w' ⟨rfl, nq, rfl⟩) | (go_at_call 113; go_in))
    exact ⟨rfl, rfl, rfl, ⟨u, x, rfl⟩, _, rfl⟩
  · have hsl := fun w => run_slice_from_out (P := Tryz.prog) Tryz.underlying52 (some ⟨B, 0, none⟩) l.length l.length .u32 (((pos : Int) + o) % 4294967296) (.inr (by unfold w32 at h1; omega)) w
    have HS := Lib.hid hsl; clear hsl
    clear hT h hs hg h1 ho
    go_enter Tryz.func46, Tryz.ntmps46
    go_wp2_with (first | (go_at_call 67; fail) | (go_at_call 128; go_in) | (go_at_call 36; refine HO.out.mono ?_; rintro e w' ⟨rfl, nq, rfl⟩; obtain ⟨u, x, m, hsl⟩ := HS.out (w.drewN nq)) | (go_at_call 113; go_in))
    exact ⟨rfl, rfl, rfl, ⟨u, x, rfl⟩, _, rfl⟩

set_option maxHeartbeats 2000000 in
theorem tableMutate_2 (T B pos off n : Nat) (l : List UInt8) (w : World) (hT : Tab w T B l pos) (h : off + 1 ≤ l.length) (hn : n < 2 ^ 64) :
    Calls Tryz.prog 45 #[.pointer (some ⟨T, 0, none⟩), .int .u8 2, .int .u32 off, .int .u64 n] w fun e w' => e = .returned (.bool true) ∧ w.setCells B off (cellsOf (numB 2 n)) = w' := by
  have hsl := run_slice_from (P := Tryz.prog) Tryz.underlying52 sizeU8 B 0 l.length l.length .u32 off off rfl (by omega)
  rw [sOff_lt (by omega), Nat.zero_add] at hsl
  have HC := Lib.hid (fun x nq => WriteInt8_ok B off (l.length - off) (l.length - off) x _ _ (w.drewN nq) (hT.drewN nq).b (by simp [cellsOf]; omega) (by omega))
  have ht := hT.t
  have hfrom := run_f32from
  have hfrom2 := run_f64from
  have hn1 : (n : Int) < 18446744073709551616 := by omega
  have he : numB 2 n = _ := ((numB_lit 2 1 n (by decide) (by simp [numSize])).trans (wb_wrap .i8 1 n rfl).symm)
  rw [he]
  clear he hT h
  go_enter Tryz.func45, Tryz.ntmps45
  go_wp2_with (first | (go_at_call 68; refine (HC.out _ 0).mono ?_; rintro e w' ⟨rfl, rfl⟩) | (go_at_call 114; go_in))
  go_ret
  exact ⟨rfl, rfl⟩

set_option maxHeartbeats 2000000 in
theorem tableMutate_2_dies (T B pos off n : Nat) (l : List UInt8) (w : World) (hT : Tab w T B l pos) (h : l.length < off + 1) (hn : n < 2 ^ 64) :
    Calls Tryz.prog 45 #[.pointer (some ⟨T, 0, none⟩), .int .u8 2, .int .u32 off, .int .u64 n] w (Dies w) := by
  have ht := hT.t
  have hfrom := run_f32from
  have hfrom2 := run_f64from
  have hn1 : (n : Int) < 18446744073709551616 := by omega
  by_cases h1 : off ≤ l.length
  · have hsl := run_slice_from (P := Tryz.prog) Tryz.underlying52 sizeU8 B 0 l.length l.length .u32 off off rfl h1
    have HC := Lib.hid (fun x nq => WriteInt8_dies (some ⟨B, sOff 0 off l.length, none⟩) (l.length - off) (l.length - off) x (w.drewN nq) (by simp) (by omega))
    clear hT h h1
    go_enter Tryz.func45, Tryz.ntmps45
    go_wp2_with (first | (go_at_call 68; refine (HC.out _ 0).mono ?_; rintro e w' ⟨⟨u, x, rfl⟩, m, rfl⟩) | (go_at_call 114; go_in))
    exact ⟨rfl, rfl, ⟨u, x, rfl⟩, m, rfl⟩
  · obtain ⟨u, x, m, hsl⟩ := run_slice_from_out (P := Tryz.prog) Tryz.underlying52 (some ⟨B, 0, none⟩) l.length l.length .u32 off (.inr (by omega)) w
    clear hT h h1
    go_enter Tryz.func45, Tryz.ntmps45
    go_wp2_with (first | (go_at_call 68; refine (HC.out _ 0).mono ?_; rintro e w' ⟨⟨u, x, rfl⟩, m, rfl⟩) | (go_at_call 114; go_in))
    exact ⟨rfl, rfl, ⟨u, x, rfl⟩, m, rfl⟩

set_option maxHeartbeats 2000000 in
theorem tableMutateSlot_2_none (T B pos slot n : Nat) (l : List UInt8) (w : World) (hT : Tab w T B l pos) (hs : slot < 65536) (hn : n < 2 ^ 64) (h : mOffset l pos slot = some 0) :
    Calls Tryz.prog 46 #[.pointer (some ⟨T, 0, none⟩), .int .u8 2, .int .u16 slot, .int .u64 n] w fun e w' => e = .returned (.bool false) ∧ ∃ m, w' = w.drewN m := by
  have HO := Lib.hid (Offset_ok T B pos slot 0 l w hT hs h)
  have hfrom := run_f32from
  have hfrom2 := run_f64from
  have hn1 : (n : Int) < 18446744073709551616 := by omega
  clear hT h hs
  go_enter Tryz.func46, Tryz.ntmps46
  go_wp2_with (first | (go_at_call 68; fail) | (go_at_call 129; go_in) | (go_at_call 36; refine HO.out.mono ?_; rintro e w' ⟨rfl, nq, rfl⟩) | (go_at_call 114; go_in))
  go_ret
  exact ⟨rfl, _, rfl⟩

set_option maxHeartbeats 2000000 in
theorem tableMutateSlot_2_dies (T B pos slot n : Nat) (l : List UInt8) (w : World) (hT : Tab w T B l pos) (hs : slot < 65536) (hn : n < 2 ^ 64) (h : mOffset l pos slot = none) :
    Calls Tryz.prog 46 #[.pointer (some ⟨T, 0, none⟩), .int .u8 2, .int .u16 slot, .int .u64 n] w (Dies w) := by
  have HO := Lib.hid (Offset_dies T B pos slot l w hT hs h)
  have hfrom := run_f32from
  have hfrom2 := run_f64from
  have hn1 : (n : Int) < 18446744073709551616 := by omega
  clear hT h hs
  go_enter Tryz.func46, Tryz.ntmps46
  go_wp2_with (first | (go_at_call 68; fail) | (go_at_call 129; go_in) | (go_at_call 36; refine HO.out.mono ?_; rintro e w' ⟨⟨u, x, rfl⟩, m, rfl⟩) | (go_at_call 114; go_in))
  exact ⟨rfl, rfl, ⟨u, x, rfl⟩, m, rfl⟩

set_option maxHeartbeats 2000000 in
theorem tableMutateSlot_2_ok (T B pos slot n o : Nat) (l : List UInt8) (w : World) (hT : Tab w T B l pos) (hs : slot < 65536) (hn : n < 2 ^ 64) (h : mOffset l pos slot = some o) (ho : o ≠ 0) (hg : w32 (pos + o) + 1 ≤ l.length) :
    Calls Tryz.prog 46 #[.pointer (some ⟨T, 0, none⟩), .int .u8 2, .int .u16 slot, .int .u64 n] w fun e w' => e = .returned (.bool true) ∧ ∃ m, (w.drewN m).setCells B (w32 (pos + o)) (cellsOf (numB 2 n)) = w' := by
  have HO := Lib.hid (Offset_ok T B pos slot o l w hT hs h)
  have hob : ((o : Int) != 0) = true := by simp; omega
  have ho1 := mOffset_lt h
  have hsl := run_slice_from (P := Tryz.prog) Tryz.underlying52 sizeU8 B 0 l.length l.length .u32 (((pos : Int) + o) % 4294967296) (w32 (pos + o)) (by unfold w32; omega) (by omega)
  rw [sOff_lt (by omega), Nat.zero_add] at hsl
  have HC := Lib.hid (fun x nq => WriteInt8_ok B (w32 (pos + o)) (l.length - w32 (pos + o)) (l.length - w32 (pos + o)) x _ _ (w.drewN nq) (hT.drewN nq).b (by simp [cellsOf]; omega) (by omega))
  have ht := hT.t
  have hp := hT.p
  have hfrom := run_f32from
  have hfrom2 := run_f64from
  have hn1 : (n : Int) < 18446744073709551616 := by omega
  have hp1 := hT.hp
  have he : numB 2 n = _ := ((numB_lit 2 1 n (by decide) (by simp [numSize])).trans (wb_wrap .i8 1 n rfl).symm)
  rw [he]
  clear he hT h hs hg ho
  generalize w32 (pos + o) = q at *
  go_enter Tryz.func46, Tryz.ntmps46
  go_wp2_with (first | (go_at_call 68; refine (HC.out _ _).mono ?_; rintro e w' ⟨rfl, rfl⟩) | (go_at_call 129; go_in) | (go_at_call 36; refine HO.out.mono ?_; rintro e w' ⟨rfl, nq, rfl⟩) | (go_at_call 114; go_in))
  go_ret
  exact ⟨rfl, _, rfl⟩

set_option maxHeartbeats 2000000 in
theorem tableMutateSlot_2_out (T B pos slot n o : Nat) (l : List UInt8) (w : World) (hT : Tab w T B l pos) (hs : slot < 65536) (hn : n < 2 ^ 64) (h : mOffset l pos slot = some o) (ho : o ≠ 0) (hg : l.length < w32 (pos + o) + 1) :
    Calls Tryz.prog 46 #[.pointer (some ⟨T, 0, none⟩), .int .u8 2, .int .u16 slot, .int .u64 n] w (Dies w) := by
  have HO := Lib.hid (Offset_ok T B pos slot o l w hT hs h)
  have hob : ((o : Int) != 0) = true := by simp; omega
  have ho1 := mOffset_lt h
  have ht := hT.t
  have hp := hT.p
  have hp1 := hT.hp
  have hfrom := run_f32from
  have hfrom2 := run_f64from
  have hn1 : (n : Int) < 18446744073709551616 := by omega
  by_cases h1 : w32 (pos + o) ≤ l.length
  · have hsl := run_slice_from (P := Tryz.prog) Tryz.underlying52 sizeU8 B 0 l.length l.length .u32 (((pos : Int) + o) % 4294967296) (w32 (pos + o)) (by unfold w32; omega) h1
    have HC := Lib.hid (fun x nq => WriteInt8_dies (some ⟨B, sOff 0 (w32 (pos + o)) l.length, none⟩) (l.length - w32 (pos + o)) (l.length - w32 (pos + o)) x (w.drewN nq) (by simp) (by omega))
    clear hT h hs hg h1 ho
    generalize w32 (pos + o) = q at *
    go_enter Tryz.func46, Tryz.ntmps46
    go_wp2_with (first | (go_at_call 68; refine (HC.out _ _).mono ?_; rintro e w' ⟨⟨u, x, rfl⟩, m, rfl⟩) | (go_at_call 129; go_in) | (go_at_call 36; refine HO.out.mono ?_; rintro e w' ⟨rfl, nq, rfl⟩) | (go_at_call 114; go_in))
    exact ⟨rfl, rfl, rfl, ⟨u, x, rfl⟩, _, rfl⟩
  · have hsl := fun w => run_slice_from_out (P := Tryz.prog) Tryz.underlying52 (some ⟨B, 0, none⟩) l.length l.length .u32 (((pos : Int) + o) % 4294967296) (.inr (by unfold w32 at h1; omega)) w
    have HS := Lib.hid hsl; clear hsl
    clear hT h hs hg h1 ho
    go_enter Tryz.func46, Tryz.ntmps46
    go_wp2_with (first | (go_at_call 68; fail) | (go_at_call 129; go_in) | (go_at_call 36; refine HO.out.mono ?_; rintro e w' ⟨rfl, nq, rfl⟩; obtain ⟨u, x, m, hsl⟩ := HS.out (w.drewN nq)) | (go_at_call 114; go_in))
    exact ⟨rfl, rfl, rfl, ⟨u, x, rfl⟩, _, rfl⟩

set_option maxHeartbeats 2000000 in
theorem tableMutate_3 (T B pos off n : Nat) (l : List UInt8) (w : World) (hT : Tab w T B l pos) (h : off + 2 ≤ l.length) (hn : n < 2 ^ 64) :
    Calls Tryz.prog 45 #[.pointer (some ⟨T, 0, none⟩), .int .u8 3, .int .u32 off, .int .u64 n] w fun e w' => e = .returned (.bool true) ∧ w.setCells B off (cellsOf (numB 3 n)) = w' := by
  have hsl := run_slice_from (P := Tryz.prog) Tryz.underlying52 sizeU8 B 0 l.length l.length .u32 off off rfl (by omega)
  rw [sOff_lt (by omega), Nat.zero_add] at hsl
  have HC := Lib.hid (fun x nq => WriteUint16_ok B off (l.length - off) (l.length - off) x _ _ (w.drewN nq) (hT.drewN nq).b (by simp [cellsOf]; omega) (by omega))
  have ht := hT.t
  have hfrom := run_f32from
  have hfrom2 := run_f64from
  have hn1 : (n : Int) < 18446744073709551616 := by omega
  have he : numB 3 n = _ := ((numB_lit 3 2 n (by decide) (by simp [numSize])).trans (wb_wrap .u16 2 n rfl).symm)
  rw [he]
  clear he hT h
  go_enter Tryz.func45, Tryz.ntmps45
  go_wp2_with (first | (go_at_call 69; refine (HC.out _ 0).mono ?_; rintro e w' ⟨rfl, rfl⟩) | (go_at_call 115; go_in))
  go_ret
  exact ⟨rfl, rfl⟩

set_option maxHeartbeats 2000000 in
theorem tableMutate_3_dies (T B pos off n : Nat) (l : List UInt8) (w : World) (hT : Tab w T B l pos) (h : l.length < off + 2) (hn : n < 2 ^ 64) :
    Calls Tryz.prog 45 #[.pointer (some ⟨T, 0, none⟩), .int .u8 3, .int .u32 off, .int .u64 n] w (Dies w) := by
  have ht := hT.t
  have hfrom := run_f32from
  have hfrom2 := run_f64from
  have hn1 : (n : Int) < 18446744073709551616 := by omega
  by_cases h1 : off ≤ l.length
  · have hsl := run_slice_from (P := Tryz.prog) Tryz.underlying52 sizeU8 B 0 l.length l.length .u32 off off rfl h1
    have HC := Lib.hid (fun x nq => WriteUint16_dies (some ⟨B, sOff 0 off l.length, none⟩) (l.length - off) (l.length - off) x (w.drewN nq) (by simp) (by omega))
    clear hT h h1
    go_enter Tryz.func45, Tryz.ntmps45
    go_wp2_with (first | (go_at_call 69; refine (HC.out _ 0).mono ?_; rintro e w' ⟨⟨u, x, rfl⟩, m, rfl⟩) | (go_at_call 115; go_in))
    exact ⟨rfl, rfl, ⟨u, x, rfl⟩, m, rfl⟩
  · obtain ⟨u, x, m, hsl⟩ := run_slice_from_out (P := Tryz.prog) Tryz.underlying52 (some ⟨B, 0, none⟩) l.length l.length .u32 off (.inr (by omega)) w
    clear hT h h1
    go_enter Tryz.func45, Tryz.ntmps45
    go_wp2_with (first | (go_at_call 69; refine (HC.out _ 0).mono ?_; rintro e w' ⟨⟨u, x, rfl⟩, m, rfl⟩) | (go_at_call 115; go_in))
    exact ⟨rfl, rfl, ⟨u, x, rfl⟩, m, rfl⟩

set_option maxHeartbeats 2000000 in
theorem tableMutateSlot_3_none (T B pos slot n : Nat) (l : List UInt8) (w : World) (hT : Tab w T B l pos) (hs : slot < 65536) (hn : n < 2 ^ 64) (h : mOffset l pos slot = some 0) :
    Calls Tryz.prog 46 #[.pointer (some ⟨T, 0, none⟩), .int .u8 3, .int .u16 slot, .int .u64 n] w fun e w' => e = .returned (.bool false) ∧ ∃ m, w' = w.drewN m := by
  have HO := Lib.hid (Offset_ok T B pos slot 0 l w hT hs h)
  have hfrom := run_f32from
  have hfrom2 := run_f64from
  have hn1 : (n : Int) < 18446744073709551616 := by omega
  clear hT h hs
  go_enter Tryz.func46, Tryz.ntmps46
  go_wp2_with (first | (go_at_call 69; fail) | (go_at_call 130; go_in) | (go_at_call 36; refine HO.out.mono ?_; rintro e w' ⟨rfl, nq, rfl⟩) | (go_at_call 115; go_in))
  go_ret
  exact ⟨rfl, _, rfl⟩

set_option maxHeartbeats 2000000 in
theorem tableMutateSlot_3_dies (T B pos slot n : Nat) (l : List UInt8) (w : World) (hT : Tab w T B l pos) (hs : slot < 65536) (hn : n < 2 ^ 64) (h : mOffset l pos slot = none) :
    Calls Tryz.prog 46 #[.pointer (some ⟨T, 0, none⟩), .int .u8 3, .int .u16 slot, .int .u64 n] w (Dies w) := by
  have HO := Lib.hid (Offset_dies T B pos slot l w hT hs h)
  have hfrom := run_f32from
  have hfrom2 := run_f64from
  have hn1 : (n : Int) < 18446744073709551616 := by omega
  clear hT h hs
  go_enter Tryz.func46, Tryz.ntmps46
  go_wp2_with (first | (go_at_call 69; fail) | (go_at_call 130; go_in) | (go_at_call 36; refine HO.out.mono ?_; rintro e w' ⟨⟨u, x, rfl⟩, m, rfl⟩) | (go_at_call 115; go_in))
  exact ⟨rfl, rfl, ⟨u, x, rfl⟩, m, rfl⟩

set_option maxHeartbeats 2000000 in
theorem tableMutateSlot_3_ok (T B pos slot n o : Nat) (l : List UInt8) (w : World) (hT : Tab w T B l pos) (hs : slot < 65536) (hn : n < 2 ^ 64) (h : mOffset l pos slot = some o) (ho : o ≠ 0) (hg : w32 (pos + o) + 2 ≤ l.length) :
    Calls Tryz.prog 46 #[.pointer (some ⟨T, 0, none⟩), .int .u8 3, .int .u16 slot, .int .u64 n] w fun e w' => e = .returned (.bool true) ∧ ∃ m, (w.drewN m).setCells B (w32 (pos + o)) (cellsOf (numB 3 n)) = w' := by
  have HO := Lib.hid (Offset_ok T B pos slot o l w hT hs h)
  have hob : ((o : Int) != 0) = true := by simp; omega
  have ho1 := mOffset_lt h
  have hsl := run_slice_from (P := Tryz.prog) Tryz.underlying52 sizeU8 B 0 l.length l.length .u32 (((pos : Int) + o) % 4294967296) (w32 (pos + o)) (by unfold w32; omega) (by omega)
  rw [sOff_lt (by omega), Nat.zero_add] at hsl
  have HC := Lib.hid (fun x nq => WriteUint16_ok B (w32 (pos + o)) (l.length - w32 (pos + o)) (l.length - w32 (pos + o)) x _ _ (w.drewN nq) (hT.drewN nq).b (by simp [cellsOf]; omega) (by omega))
  have ht := hT.t
  have hp := hT.p
  have hfrom := run_f32from
  have hfrom2 := run_f64from
  have hn1 : (n : Int) < 18446744073709551616 := by omega
  have hp1 := hT.hp
  have he : numB 3 n = _ := ((numB_lit 3 2 n (by decide) (by simp [numSize])).trans (wb_wrap .u16 2 n rfl).symm)
  rw [he]
  clear he hT h hs hg ho
  generalize w32 (pos + o) = q at *
  go_enter Tryz.func46, Tryz.ntmps46
  go_wp2_with (first | (go_at_call 69; refine (HC.out _ _).mono ?_; rintro e w' ⟨rfl, rfl⟩) | (go_at_call 130; go_in) | (go_at_call 36; refine HO.out.mono ?_; rintro e w' ⟨rfl, nq, rfl⟩) | (go_at_call 115; go_in))
  go_ret
  exact ⟨rfl, _, rfl⟩

set_option maxHeartbeats 2000000 in
theorem tableMutateSlot_3_out (T B pos slot n o : Nat) (l : List UInt8) (w : World) (hT : Tab w T B l pos) (hs : slot < 65536) (hn : n < 2 ^ 64) (h : mOffset l pos slot = some o) (ho : o ≠ 0) (hg : l.length < w32 (pos + o) + 2) :
    Calls Tryz.prog 46 #[.pointer (some ⟨T, 0, none⟩), .int .u8 3, .int .u16 slot, .int .u64 n] w (Dies w) := by
  have HO := Lib.hid (Offset_ok T B pos slot o l w hT hs h)
  have hob : ((o : Int) != 0) = true := by simp; omega
  have ho1 := mOffset_lt h
  have ht := hT.t
  have hp := hT.p
  have hp1 := hT.hp
  have hfrom := run_f32from
  have hfrom2 := run_f64from
  have hn1 : (n : Int) < 18446744073709551616 := by omega
  by_cases h1 : w32 (pos + o) ≤ l.length
  · have hsl := run_slice_from (P := Tryz.prog) Tryz.underlying52 sizeU8 B 0 l.length l.length .u32 (((pos : Int) + o) % 4294967296) (w32 (pos + o)) (by unfold w32; omega) h1
    have HC := Lib.hid (fun x nq => WriteUint16_dies (some ⟨B, sOff 0 (w32 (pos + o)) l.length, none⟩) (l.length - w32 (pos + o)) (l.length - w32 (pos + o)) x (w.drewN nq) (by simp) (by omega))
    clear hT h hs hg h1 ho
    generalize w32 (pos + o) = q at *
    go_enter Tryz.func46, Tryz.ntmps46
    go_wp2_with (first | (go_at_call 69; refine (HC.out _ _).mono ?_; rintro e w' ⟨⟨u, x, rfl⟩, m, rfl⟩) | (go_at_call 130; go_in) | (go_at_call 36; refine HO.out.mono ?_; rintro e w' ⟨rfl, nq, rfl⟩) | (go_at_call 115; go_in))
    exact ⟨rfl, rfl, rfl, ⟨u, x, rfl⟩, _, rfl⟩
  · have hsl := fun w => run_slice_from_out (P := Tryz.prog) Tryz.underlying52 (some ⟨B, 0, none⟩) l.length l.length .u32 (((pos : Int) + o) % 4294967296) (.inr (by unfold w32 at h1; omega)) w
    have HS := Lib.hid hsl; clear hsl
    clear hT h hs hg h1 ho
    go_enter Tryz.func46, Tryz.ntmps46
    go_wp2_with (first | (go_at_call 69; fail) | (go_at_call 130; go_in) | (go_at_call 36; refine HO.out.mono ?_; rintro e w' ⟨rfl, nq, rfl⟩; obtain ⟨u, x, m, hsl⟩ := HS.out (w.drewN nq)) | (go_at_call 115; go_in))
    exact ⟨rfl, rfl, rfl, ⟨u, x, rfl⟩, _, rfl⟩

set_option maxHeartbeats 2000000 in
theorem tableMutate_4 (T B pos off n : Nat) (l : List UInt8) (w : World) (hT : Tab w T B l pos) (h : off + 2 ≤ l.length) (hn : n < 2 ^ 64) :
    Calls Tryz.prog 45 #[.pointer (some ⟨T, 0, none⟩), .int .u8 4, .int .u32 off, .int .u64 n] w fun e w' => e = .returned (.bool true) ∧ w.setCells B off (cellsOf (numB 4 n)) = w' := by
  have hsl := run_slice_from (P := Tryz.prog) Tryz.underlying52 sizeU8 B 0 l.length l.length .u32 off off rfl (by omega)
  rw [sOff_lt (by omega), Nat.zero_add] at hsl
  have HC := Lib.hid (fun x nq => WriteInt16_ok B off (l.length - off) (l.length - off) x _ _ (w.drewN nq) (hT.drewN nq).b (by simp [cellsOf]; omega) (by omega))
  have ht := hT.t
  have hfrom := run_f32from
  have hfrom2 := run_f64from
  have hn1 : (n : Int) < 18446744073709551616 := by omega
  have he : numB 4 n = _ := ((numB_lit 4 2 n (by decide) (by simp [numSize])).trans (wb_wrap .i16 2 n rfl).symm)
  rw [he]
  clear he hT h
  go_enter Tryz.func45, Tryz.ntmps45
  go_wp2_with (first | (go_at_call 70; refine (HC.out _ 0).mono ?_; rintro e w' ⟨rfl, rfl⟩) | (go_at_call 116; go_in))
  go_ret
  exact ⟨rfl, rfl⟩

set_option maxHeartbeats 2000000 in
theorem tableMutate_4_dies (T B pos off n : Nat) (l : List UInt8) (w : World) (hT : Tab w T B l pos) (h : l.length < off + 2) (hn : n < 2 ^ 64) :
    Calls Tryz.prog 45 #[.pointer (some ⟨T, 0, none⟩), .int .u8 4, .int .u32 off, .int .u64 n] w (Dies w) := by
  have ht := hT.t
  have hfrom := run_f32from
  have hfrom2 := run_f64from
  have hn1 : (n : Int) < 18446744073709551616 := by omega
  by_cases h1 : off ≤ l.length
  · have hsl := run_slice_from (P := Tryz.prog) Tryz.underlying52 sizeU8 B 0 l.length l.length .u32 off off rfl h1
    have HC := Lib.hid (fun x nq => WriteInt16_dies (some ⟨B, sOff 0 off l.length, none⟩) (l.length - off) (l.length - off) x (w.drewN nq) (by simp) (by omega))
    clear hT h h1
    go_enter Tryz.func45, Tryz.ntmps45
    go_wp2_with (first | (go_at_call 70; refine (HC.out _ 0).mono ?_; rintro e w' ⟨⟨u, x, rfl⟩, m, rfl⟩) | (go_at_call 116; go_in))
    exact ⟨rfl, rfl, ⟨u, x, rfl⟩, m, rfl⟩
  · obtain ⟨u, x, m, hsl⟩ := run_slice_from_out (P := Tryz.prog) Tryz.underlying52 (some ⟨B, 0, none⟩) l.length l.length .u32 off (.inr (by omega)) w
    clear hT h h1
    go_enter Tryz.func45, Tryz.ntmps45
    go_wp2_with (first | (go_at_call 70; refine (HC.out _ 0).mono ?_; rintro e w' ⟨⟨u, x, rfl⟩, m, rfl⟩) | (go_at_call 116; go_in))
    exact ⟨rfl, rfl, ⟨u, x, rfl⟩, m, rfl⟩

set_option maxHeartbeats 2000000 in
theorem tableMutateSlot_4_none (T B pos slot n : Nat) (l : List UInt8) (w : World) (hT : Tab w T B l pos) (hs : slot < 65536) (hn : n < 2 ^ 64) (h : mOffset l pos slot = some 0) :
    Calls Tryz.prog 46 #[.pointer (some ⟨T, 0, none⟩), .int .u8 4, .int .u16 slot, .int .u64 n] w fun e w' => e = .returned (.bool false) ∧ ∃ m, w' = w.drewN m := by
  have HO := Lib.hid (Offset_ok T B pos slot 0 l w hT hs h)
  have hfrom := run_f32from
  have hfrom2 := run_f64from
  have hn1 : (n : Int) < 18446744073709551616 := by omega
  clear hT h hs
  go_enter Tryz.func46, Tryz.ntmps46
  go_wp2_with (first | (go_at_call 70; fail) | (go_at_call 131; go_in) | (go_at_call 36; refine HO.out.mono ?_; rintro e w' ⟨rfl, nq, rfl⟩) | (go_at_call 116; go_in))
  go_ret
  exact ⟨rfl, _, rfl⟩

set_option maxHeartbeats 2000000 in
theorem tableMutateSlot_4_dies (T B pos slot n : Nat) (l : List UInt8) (w : World) (hT : Tab w T B l pos) (hs : slot < 65536) (hn : n < 2 ^ 64) (h : mOffset l pos slot = none) :
    Calls Tryz.prog 46 #[.pointer (some ⟨T, 0, none⟩), .int .u8 4, .int .u16 slot, .int .u64 n] w (Dies w) := by
  have HO := Lib.hid (Offset_dies T B pos slot l w hT hs h)
  have hfrom := run_f32from
  have hfrom2 := run_f64from
  have hn1 : (n : Int) < 18446744073709551616 := by omega
  clear hT h hs
  go_enter Tryz.func46, Tryz.ntmps46
  go_wp2_with (first | (go_at_call 70; fail) | (go_at_call 131; go_in) | (go_at_call 36; refine HO.out.mono ?_; rintro e w' ⟨⟨u, x, rfl⟩, m, rfl⟩) | (go_at_call 116; go_in))
  exact ⟨rfl, rfl, ⟨u, x, rfl⟩, m, rfl⟩

set_option maxHeartbeats 2000000 in
theorem tableMutateSlot_4_ok (T B pos slot n o : Nat) (l : List UInt8) (w : World) (hT : Tab w T B l pos) (hs : slot < 65536) (hn : n < 2 ^ 64) (h : mOffset l pos slot = some o) (ho : o ≠ 0) (hg : w32 (pos + o) + 2 ≤ l.length) :
    Calls Tryz.prog 46 #[.pointer (some ⟨T, 0, none⟩), .int .u8 4, .int .u16 slot, .int .u64 n] w fun e w' => e = .returned (.bool true) ∧ ∃ m, (w.drewN m).setCells B (w32 (pos + o)) (cellsOf (numB 4 n)) = w' := by
  have HO := Lib.hid (Offset_ok T B pos slot o l w hT hs h)
  have hob : ((o : Int) != 0) = true := by simp; omega
  have ho1 := mOffset_lt h
  have hsl := run_slice_from (P := Tryz.prog) Tryz.underlying52 sizeU8 B 0 l.length l.length .u32 (((pos : Int) + o) % 4294967296) (w32 (pos + o)) (by unfold w32; omega) (by omega)
  rw [sOff_lt (by omega), Nat.zero_add] at hsl
  have HC := Lib.hid (fun x nq => WriteInt16_ok B (w32 (pos + o)) (l.length - w32 (pos + o)) (l.length - w32 (pos + o)) x _ _ (w.drewN nq) (hT.drewN nq).b (by simp [cellsOf]; omega) (by omega))
  have ht := hT.t
  have hp := hT.p
  have hfrom := run_f32from
  have hfrom2 := run_f64from
  have hn1 : (n : Int) < 18446744073709551616 := by omega
  have hp1 := hT.hp
  have he : numB 4 n = _ := ((numB_lit 4 2 n (by decide) (by simp [numSize])).trans (wb_wrap .i16 2 n rfl).symm)
  rw [he]
  clear he hT h hs hg ho
  generalize w32 (pos + o) = q at *
  go_enter Tryz.func46, Tryz.ntmps46
  go_wp2_with (first | (go_at_call 70; refine (HC.out _ _).mono ?_; rintro e w' ⟨rfl, rfl⟩) | (go_at_call 131; go_in) | (go_at_call 36; refine HO.out.mono ?_; rintro e w' ⟨rfl, nq, rfl⟩) | (go_at_call 116; go_in))
  go_ret
  exact ⟨rfl, _, rfl⟩

set_option maxHeartbeats 2000000 in
theorem tableMutateSlot_4_out (T B pos slot n o : Nat) (l : List UInt8) (w : World) (hT : Tab w T B l pos) (hs : slot < 65536) (hn : n < 2 ^ 64) (h : mOffset l pos slot = some o) (ho : o ≠ 0) (hg : l.length < w32 (pos + o) + 2) :
    Calls Tryz.prog 46 #[.pointer (some ⟨T, 0, none⟩), .int .u8 4, .int .u16 slot, .int .u64 n] w (Dies w) := by
  have HO := Lib.hid (Offset_ok T B pos slot o l w hT hs h)
  have hob : ((o : Int) != 0) = true := by simp; omega
  have ho1 := mOffset_lt h
  have ht := hT.t
  have hp := hT.p
  have hp1 := hT.hp
  have hfrom := run_f32from
  have hfrom2 := run_f64from
  have hn1 : (n : Int) < 18446744073709551616 := by omega
  by_cases h1 : w32 (pos + o) ≤ l.length
  · have hsl := run_slice_from (P := Tryz.prog) Tryz.underlying52 sizeU8 B 0 l.length l.length .u32 (((pos : Int) + o) % 4294967296) (w32 (pos + o)) (by unfold w32; omega) h1
    have HC := Lib.hid (fun x nq => WriteInt16_dies (some ⟨B, sOff 0 (w32 (pos + o)) l.length, none⟩) (l.length - w32 (pos + o)) (l.length - w32 (pos + o)) x (w.drewN nq) (by simp) (by omega))
    clear hT h hs hg h1 ho
    generalize w32 (pos + o) = q at *
    go_enter Tryz.func46, Tryz.ntmps46
    go_wp2_with (first | (go_at_call 70; refine (HC.out _ _).mono ?_; rintro e w' ⟨⟨u, x, rfl⟩, m, rfl⟩) | (go_at_call 131; go_in) | (go_at_call 36; refine HO.out.mono ?_; rintro e w' ⟨rfl, nq, rfl⟩) | (go_at_call 116; go_in))
    exact ⟨rfl, rfl, rfl, ⟨u, x, rfl⟩, _, rfl⟩
  · have hsl := fun w => run_slice_from_out (P := Tryz.prog) Tryz.underlying52 (some ⟨B, 0, none⟩) l.length l.length .u32 (((pos : Int) + o) % 4294967296) (.inr (by unfold w32 at h1; omega)) w
    have HS := Lib.hid hsl; clear hsl
    clear hT h hs hg h1 ho
    go_enter Tryz.func46, Tryz.ntmps46
    go_wp2_with (first | (go_at_call 70; fail) | (go_at_call 131; go_in) | (go_at_call 36; refine HO.out.mono ?_; rintro e w' ⟨rfl, nq, rfl⟩; obtain ⟨u, x, m, hsl⟩ := HS.out (w.drewN nq)) | (go_at_call 116; go_in))
    exact ⟨rfl, rfl, rfl, ⟨u, x, rfl⟩, _, rfl⟩

set_option maxHeartbeats 2000000 in
theorem tableMutate_5 (T B pos off n : Nat) (l : List UInt8) (w : World) (hT : Tab w T B l pos) (h : off + 4 ≤ l.length) (hn : n < 2 ^ 64) :
    Calls Tryz.prog 45 #[.pointer (some ⟨T, 0, none⟩), .int .u8 5, .int .u32 off, .int .u64 n] w fun e w' => e = .returned (.bool true) ∧ w.setCells B off (cellsOf (numB 5 n)) = w' := by
  have hsl := run_slice_from (P := Tryz.prog) Tryz.underlying52 sizeU8 B 0 l.length l.length .u32 off off rfl (by omega)
  rw [sOff_lt (by omega), Nat.zero_add] at hsl
  have HC := Lib.hid (fun x nq => WriteUint32_ok B off (l.length - off) (l.length - off) x _ _ (w.drewN nq) (hT.drewN nq).b (by simp [cellsOf]; omega) (by omega))
  have ht := hT.t
  have hfrom := run_f32from
  have hfrom2 := run_f64from
  have hn1 : (n : Int) < 18446744073709551616 := by omega
  have he : numB 5 n = _ := ((numB_lit 5 4 n (by decide) (by simp [numSize])).trans (wb_mod 4 n 4294967296 rfl).symm)
  rw [he]
  clear he hT h
  go_enter Tryz.func45, Tryz.ntmps45
  go_wp2_with (first | (go_at_call 71; refine (HC.out _ 0).mono ?_; rintro e w' ⟨rfl, rfl⟩) | (go_at_call 117; go_in))
  go_ret
  exact ⟨rfl, rfl⟩

set_option maxHeartbeats 2000000 in
theorem tableMutate_5_dies (T B pos off n : Nat) (l : List UInt8) (w : World) (hT : Tab w T B l pos) (h : l.length < off + 4) (hn : n < 2 ^ 64) :
    Calls Tryz.prog 45 #[.pointer (some ⟨T, 0, none⟩), .int .u8 5, .int .u32 off, .int .u64 n] w (Dies w) := by
  have ht := hT.t
  have hfrom := run_f32from
  have hfrom2 := run_f64from
  have hn1 : (n : Int) < 18446744073709551616 := by omega
  by_cases h1 : off ≤ l.length
  · have hsl := run_slice_from (P := Tryz.prog) Tryz.underlying52 sizeU8 B 0 l.length l.length .u32 off off rfl h1
    have HC := Lib.hid (fun x nq => WriteUint32_dies (some ⟨B, sOff 0 off l.length, none⟩) (l.length - off) (l.length - off) x (w.drewN nq) (by simp) (by omega))
    clear hT h h1
    go_enter Tryz.func45, Tryz.ntmps45
    go_wp2_with (first | (go_at_call 71; refine (HC.out _ 0).mono ?_; rintro e w' ⟨⟨u, x, rfl⟩, m, rfl⟩) | (go_at_call 117; go_in))
    exact ⟨rfl, rfl, ⟨u, x, rfl⟩, m, rfl⟩
  · obtain ⟨u, x, m, hsl⟩ := run_slice_from_out (P := Tryz.prog) Tryz.underlying52 (some ⟨B, 0, none⟩) l.length l.length .u32 off (.inr (by omega)) w
    clear hT h h1
    go_enter Tryz.func45, Tryz.ntmps45
    go_wp2_with (first | (go_at_call 71; refine (HC.out _ 0).mono ?_; rintro e w' ⟨⟨u, x, rfl⟩, m, rfl⟩) | (go_at_call 117; go_in))
    exact ⟨rfl, rfl, ⟨u, x, rfl⟩, m, rfl⟩

set_option maxHeartbeats 2000000 in
theorem tableMutateSlot_5_none (T B pos slot n : Nat) (l : List UInt8) (w : World) (hT : Tab w T B l pos) (hs : slot < 65536) (hn : n < 2 ^ 64) (h : mOffset l pos slot = some 0) :
    Calls Tryz.prog 46 #[.pointer (some ⟨T, 0, none⟩), .int .u8 5, .int .u16 slot, .int .u64 n] w fun e w' => e = .returned (.bool false) ∧ ∃ m, w' = w.drewN m := by
  have HO := Lib.hid (Offset_ok T B pos slot 0 l w hT hs h)
  have hfrom := run_f32from
  have hfrom2 := run_f64from
  have hn1 : (n : Int) < 18446744073709551616 := by omega
  clear hT h hs
  go_enter Tryz.func46, Tryz.ntmps46
  go_wp2_with (first | (go_at_call 71; fail) | (go_at_call 132; go_in) | (go_at_call 36; refine HO.out.mono ?_; rintro e w' ⟨rfl, nq, rfl⟩) | (go_at_call 117; go_in))
  go_ret
  exact ⟨rfl, _, rfl⟩

set_option maxHeartbeats 2000000 in
theorem tableMutateSlot_5_dies (T B pos slot n : Nat) (l : List UInt8) (w : World) (hT : Tab w T B l pos) (hs : slot < 65536) (hn : n < 2 ^ 64) (h : mOffset l pos slot = none) :
    Calls Tryz.prog 46 #[.pointer (some ⟨T, 0, none⟩), .int .u8 5, .int .u16 slot, .int .u64 n] w (Dies w) := by
  have HO := Lib.hid (Offset_dies T B pos slot l w hT hs h)
  have hfrom := run_f32from
  have hfrom2 := run_f64from
  have hn1 : (n : Int) < 18446744073709551616 := by omega
  clear hT h hs
  go_enter Tryz.func46, Tryz.ntmps46
  go_wp2_with (first | (go_at_call 71; fail) | (go_at_call 132; go_in) | (go_at_call 36; refine HO.out.mono ?_; rintro e w' ⟨⟨u, x, rfl⟩, m, rfl⟩) | (go_at_call 117; go_in))
  exact ⟨rfl, rfl, ⟨u, x, rfl⟩, m, rfl⟩

set_option maxHeartbeats 2000000 in
theorem tableMutateSlot_5_ok (T B pos slot n o : Nat) (l : List UInt8) (w : World) (hT : Tab w T B l pos) (hs : slot < 65536) (hn : n < 2 ^ 64) (h : mOffset l pos slot = some o) (ho : o ≠ 0) (hg : w32 (pos + o) + 4 ≤ l.length) :
    Calls Tryz.prog 46 #[.pointer (some ⟨T, 0, none⟩), .int .u8 5, .int .u16 slot, .int .u64 n] w fun e w' => e = .returned (.bool true) ∧ ∃ m, (w.drewN m).setCells B (w32 (pos + o)) (cellsOf (numB 5 n)) = w' := by
  have HO := Lib.hid (Offset_ok T B pos slot o l w hT hs h)
  have hob : ((o : Int) != 0) = true := by simp; omega
  have ho1 := mOffset_lt h
  have hsl := run_slice_from (P := Tryz.prog) Tryz.underlying52 sizeU8 B 0 l.length l.length .u32 (((pos : Int) + o) % 4294967296) (w32 (pos + o)) (by unfold w32; omega) (by omega)
  rw [sOff_lt (by omega), Nat.zero_add] at hsl
  have HC := Lib.hid (fun x nq => WriteUint32_ok B (w32 (pos + o)) (l.length - w32 (pos + o)) (l.length - w32 (pos + o)) x _ _ (w.drewN nq) (hT.drewN nq).b (by simp [cellsOf]; omega) (by omega))
  have ht := hT.t
  have hp := hT.p
  have hfrom := run_f32from
  have hfrom2 := run_f64from
  have hn1 : (n : Int) < 18446744073709551616 := by omega
  have hp1 := hT.hp
  have he : numB 5 n = _ := ((numB_lit 5 4 n (by decide) (by simp [numSize])).trans (wb_mod 4 n 4294967296 rfl).symm)
  rw [he]
  clear he hT h hs hg ho
  generalize w32 (pos + o) = q at *
  go_enter Tryz.func46, Tryz.ntmps46
  go_wp2_with (first | (go_at_call 71; refine (HC.out _ _).mono ?_; rintro e w' ⟨rfl, rfl⟩) | (go_at_call 132; go_in) | (go_at_call 36; refine HO.out.mono ?_; rintro e w' ⟨rfl, nq, rfl⟩) | (go_at_call 117; go_in))
  go_ret
  exact ⟨rfl, _, rfl⟩

set_option maxHeartbeats 2000000 in
theorem tableMutateSlot_5_out (T B pos slot n o : Nat) (l : List UInt8) (w : World) (hT : Tab w T B l pos) (hs : slot < 65536) (hn : n < 2 ^ 64) (h : mOffset l pos slot = some o) (ho : o ≠ 0) (hg : l.length < w32 (pos + o) + 4) :
    Calls Tryz.prog 46 #[.pointer (some ⟨T, 0, none⟩), .int .u8 5, .int .u16 slot, .int .u64 n] w (Dies w) := by
  have HO := Lib.hid (Offset_ok T B pos slot o l w hT hs h)
  have hob : ((o : Int) != 0) = true := by simp; omega
  have ho1 := mOffset_lt h
  have ht := hT.t
  have hp := hT.p
  have hp1 := hT.hp
  have hfrom := run_f32from
  have hfrom2 := run_f64from
  have hn1 : (n : Int) < 18446744073709551616 := by omega
  by_cases h1 : w32 (pos + o) ≤ l.length
  · have hsl := run_slice_from (P := Tryz.prog) Tryz.underlying52 sizeU8 B 0 l.length l.length .u32 (((pos : Int) + o) % 4294967296) (w32 (pos + o)) (by unfold w32; omega) h1
    have HC := Lib.hid (fun x nq => WriteUint32_dies (some ⟨B, sOff 0 (w32 (pos + o)) l.length, none⟩) (l.length - w32 (pos + o)) (l.length - w32 (pos + o)) x (w.drewN nq) (by simp) (by omega))
    clear hT h hs hg h1 ho
    generalize w32 (pos + o) = q at *
    go_enter Tryz.func46, Tryz.ntmps46
    go_wp2_with (first | (go_at_call 71; refine (HC.out _ _).mono ?_; rintro e w' ⟨⟨u, x, rfl⟩, m, rfl⟩) | (go_at_call 132; go_in) | (go_at_call 36; refine HO.out.mono ?_; rintro e w' ⟨rfl, nq, rfl⟩) | (go_at_call 117; go_in))
    exact ⟨rfl, rfl, rfl, ⟨u, x, rfl⟩, _, rfl⟩
  · have hsl := fun w => run_slice_from_out (P := Tryz.prog) Tryz.underlying52 (some ⟨B, 0, none⟩) l.length l.length .u32 (((pos : Int) + o) % 4294967296) (.inr (by unfold w32 at h1; omega)) w
    have HS := Lib.hid hsl; clear hsl
    clear hT h hs hg h1 ho
    go_enter Tryz.func46, Tryz.ntmps46
    go_wp2_with (first | (go_at_call 71; fail) | (go_at_call 132; go_in) | (go_at_call 36; refine HO.out.mono ?_; rintro e w' ⟨rfl, nq, rfl⟩; obtain ⟨u, x, m, hsl⟩ := HS.out (w.drewN nq)) | (go_at_call 117; go_in))
    exact ⟨rfl, rfl, rfl, ⟨u, x, rfl⟩, _, rfl⟩

set_option maxHeartbeats 2000000 in
theorem tableMutate_6 (T B pos off n : Nat) (l : List UInt8) (w : World) (hT : Tab w T B l pos) (h : off + 4 ≤ l.length) (hn : n < 2 ^ 64) :
    Calls Tryz.prog 45 #[.pointer (some ⟨T, 0, none⟩), .int .u8 6, .int .u32 off, .int .u64 n] w fun e w' => e = .returned (.bool true) ∧ w.setCells B off (cellsOf (numB 6 n)) = w' := by
  have hsl := run_slice_from (P := Tryz.prog) Tryz.underlying52 sizeU8 B 0 l.length l.length .u32 off off rfl (by omega)
  rw [sOff_lt (by omega), Nat.zero_add] at hsl
  have HC := Lib.hid (fun x nq => WriteInt32_ok B off (l.length - off) (l.length - off) x _ _ (w.drewN nq) (hT.drewN nq).b (by simp [cellsOf]; omega) (by omega))
  have ht := hT.t
  have hfrom := run_f32from
  have hfrom2 := run_f64from
  have hn1 : (n : Int) < 18446744073709551616 := by omega
  have he : numB 6 n = _ := ((numB_lit 6 4 n (by decide) (by simp [numSize])).trans (wb_32 n).symm)
  rw [he]
  clear he hT h
  go_enter Tryz.func45, Tryz.ntmps45
  go_wp2_with (first | (go_at_call 72; refine (HC.out _ 0).mono ?_; rintro e w' ⟨rfl, rfl⟩) | (go_at_call 118; go_in))
  go_ret
  exact ⟨rfl, rfl⟩

set_option maxHeartbeats 2000000 in
theorem tableMutate_6_dies (T B pos off n : Nat) (l : List UInt8) (w : World) (hT : Tab w T B l pos) (h : l.length < off + 4) (hn : n < 2 ^ 64) :
    Calls Tryz.prog 45 #[.pointer (some ⟨T, 0, none⟩), .int .u8 6, .int .u32 off, .int .u64 n] w (Dies w) := by
  have ht := hT.t
  have hfrom := run_f32from
  have hfrom2 := run_f64from
  have hn1 : (n : Int) < 18446744073709551616 := by omega
  by_cases h1 : off ≤ l.length
  · have hsl := run_slice_from (P := Tryz.prog) Tryz.underlying52 sizeU8 B 0 l.length l.length .u32 off off rfl h1
    have HC := Lib.hid (fun x nq => WriteInt32_dies (some ⟨B, sOff 0 off l.length, none⟩) (l.length - off) (l.length - off) x (w.drewN nq) (by simp) (by omega))
    clear hT h h1
    go_enter Tryz.func45, Tryz.ntmps45
    go_wp2_with (first | (go_at_call 72; refine (HC.out _ 0).mono ?_; rintro e w' ⟨⟨u, x, rfl⟩, m, rfl⟩) | (go_at_call 118; go_in))
    exact ⟨rfl, rfl, ⟨u, x, rfl⟩, m, rfl⟩
  · obtain ⟨u, x, m, hsl⟩ := run_slice_from_out (P := Tryz.prog) Tryz.underlying52 (some ⟨B, 0, none⟩) l.length l.length .u32 off (.inr (by omega)) w
    clear hT h h1
    go_enter Tryz.func45, Tryz.ntmps45
    go_wp2_with (first | (go_at_call 72; refine (HC.out _ 0).mono ?_; rintro e w' ⟨⟨u, x, rfl⟩, m, rfl⟩) | (go_at_call 118; go_in))
    exact ⟨rfl, rfl, ⟨u, x, rfl⟩, m, rfl⟩

set_option maxHeartbeats 2000000 in
theorem tableMutateSlot_6_none (T B pos slot n : Nat) (l : List UInt8) (w : World) (hT : Tab w T B l pos) (hs : slot < 65536) (hn : n < 2 ^ 64) (h : mOffset l pos slot = some 0) :
    Calls Tryz.prog 46 #[.pointer (some ⟨T, 0, none⟩), .int .u8 6, .int .u16 slot, .int .u64 n] w fun e w' => e = .returned (.bool false) ∧ ∃ m, w' = w.drewN m := by
  have HO := Lib.hid (Offset_ok T B pos slot 0 l w hT hs h)
  have hfrom := run_f32from
  have hfrom2 := run_f64from
  have hn1 : (n : Int) < 18446744073709551616 := by omega
  clear hT h hs
  go_enter Tryz.func46, Tryz.ntmps46
  go_wp2_with (first | (go_at_call 72; fail) | (go_at_call 133; go_in) | (go_at_call 36; refine HO.out.mono ?_; rintro e w' ⟨rfl, nq, rfl⟩) | (go_at_call 118; go_in))
  go_ret
  exact ⟨rfl, _, rfl⟩

set_option maxHeartbeats 2000000 in
theorem tableMutateSlot_6_dies (T B pos slot n : Nat) (l : List UInt8) (w : World) (hT : Tab w T B l pos) (hs : slot < 65536) (hn : n < 2 ^ 64) (h : mOffset l pos slot = none) :
    Calls Tryz.prog 46 #[.pointer (some ⟨T, 0, none⟩), .int .u8 6, .int .u16 slot, .int .u64 n] w (Dies w) := by
  have HO := Lib.hid (Offset_dies T B pos slot l w hT hs h)
  have hfrom := run_f32from
  have hfrom2 := run_f64from
  have hn1 : (n : Int) < 18446744073709551616 := by omega
  clear hT h hs
  go_enter Tryz.func46, Tryz.ntmps46
  go_wp2_with (first | (go_at_call 72; fail) | (go_at_call 133; go_in) | (go_at_call 36; refine HO.out.mono ?_; rintro e w' ⟨⟨u, x, rfl⟩, m, rfl⟩) | (go_at_call 118; go_in))
  exact ⟨rfl, rfl, ⟨u, x, rfl⟩, m, rfl⟩

set_option maxHeartbeats 2000000 in
theorem tableMutateSlot_6_ok (T B pos slot n o : Nat) (l : List UInt8) (w : World) (hT : Tab w T B l pos) (hs : slot < 65536) (hn : n < 2 ^ 64) (h : mOffset l pos slot = some o) (ho : o ≠ 0) (hg : w32 (pos + o) + 4 ≤ l.length) :
    Calls Tryz.prog 46 #[.pointer (some ⟨T, 0, none⟩), .int .u8 6, .int .u16 slot, .int .u64 n] w fun e w' => e = .returned (.bool true) ∧ ∃ m, (w.drewN m).setCells B (w32 (pos + o)) (cellsOf (numB 6 n)) = w' := by
  have HO := Lib.hid (Offset_ok T B pos slot o l w hT hs h)
  have hob : ((o : Int) != 0) = true := by simp; omega
  have ho1 := mOffset_lt h
  have hsl := run_slice_from (P := Tryz.prog) Tryz.underlying52 sizeU8 B 0 l.length l.length .u32 (((pos : Int) + o) % 4294967296) (w32 (pos + o)) (by unfold w32; omega) (by omega)
  rw [sOff_lt (by omega), Nat.zero_add] at hsl
  have HC := Lib.hid (fun x nq => WriteInt32_ok B (w32 (pos + o)) (l.length - w32 (pos + o)) (l.length - w32 (pos + o)) x _ _ (w.drewN nq) (hT.drewN nq).b (by simp [cellsOf]; omega) (by omega))
  have ht := hT.t
  have hp := hT.p
  have hfrom := run_f32from
  have hfrom2 := run_f64from
  have hn1 : (n : Int) < 18446744073709551616 := by omega
  have hp1 := hT.hp
  have he : numB 6 n = _ := ((numB_lit 6 4 n (by decide) (by simp [numSize])).trans (wb_32 n).symm)
  rw [he]
  clear he hT h hs hg ho
  generalize w32 (pos + o) = q at *
  go_enter Tryz.func46, Tryz.ntmps46
  go_wp2_with (first | (go_at_call 72; refine (HC.out _ _).mono ?_; rintro e w' ⟨rfl, rfl⟩) | (go_at_call 133; go_in) | (go_at_call 36; refine HO.out.mono ?_; rintro e w' ⟨rfl, nq, rfl⟩) | (go_at_call 118; go_in))
  go_ret
  exact ⟨rfl, _, rfl⟩

set_option maxHeartbeats 2000000 in
theorem tableMutateSlot_6_out (T B pos slot n o : Nat) (l : List UInt8) (w : World) (hT : Tab w T B l pos) (hs : slot < 65536) (hn : n < 2 ^ 64) (h : mOffset l pos slot = some o) (ho : o ≠ 0) (hg : l.length < w32 (pos + o) + 4) :
    Calls Tryz.prog 46 #[.pointer (some ⟨T, 0, none⟩), .int .u8 6, .int .u16 slot, .int .u64 n] w (Dies w) := by
  have HO := Lib.hid (Offset_ok T B pos slot o l w hT hs h)
  have hob : ((o : Int) != 0) = true := by simp; omega
  have ho1 := mOffset_lt h
  have ht := hT.t
  have hp := hT.p
  have hp1 := hT.hp
  have hfrom := run_f32from
  have hfrom2 := run_f64from
  have hn1 : (n : Int) < 18446744073709551616 := by omega
  by_cases h1 : w32 (pos + o) ≤ l.length
  · have hsl := run_slice_from (P := Tryz.prog) Tryz.underlying52 sizeU8 B 0 l.length l.length .u32 (((pos : Int) + o) % 4294967296) (w32 (pos + o)) (by unfold w32; omega) h1
    have HC := Lib.hid (fun x nq => WriteInt32_dies (some ⟨B, sOff 0 (w32 (pos + o)) l.length, none⟩) (l.length - w32 (pos + o)) (l.length - w32 (pos + o)) x (w.drewN nq) (by simp) (by omega))
    clear hT h hs hg h1 ho
    generalize w32 (pos + o) = q at *
    go_enter Tryz.func46, Tryz.ntmps46
    go_wp2_with (first | (go_at_call 72; refine (HC.out _ _).mono ?_; rintro e w' ⟨⟨u, x, rfl⟩, m, rfl⟩) | (go_at_call 133; go_in) | (go_at_call 36; refine HO.out.mono ?_; rintro e w' ⟨rfl, nq, rfl⟩) | (go_at_call 118; go_in))
    exact ⟨rfl, rfl, rfl, ⟨u, x, rfl⟩, _, rfl⟩
  · have hsl := fun w => run_slice_from_out (P := Tryz.prog) Tryz.underlying52 (some ⟨B, 0, none⟩) l.length l.length .u32 (((pos : Int) + o) % 4294967296) (.inr (by unfold w32 at h1; omega)) w
    have HS := Lib.hid hsl; clear hsl
    clear hT h hs hg h1 ho
    go_enter Tryz.func46, Tryz.ntmps46
    go_wp2_with (first | (go_at_call 72; fail) | (go_at_call 133; go_in) | (go_at_call 36; refine HO.out.mono ?_; rintro e w' ⟨rfl, nq, rfl⟩; obtain ⟨u, x, m, hsl⟩ := HS.out (w.drewN nq)) | (go_at_call 118; go_in))
    exact ⟨rfl, rfl, rfl, ⟨u, x, rfl⟩, _, rfl⟩

set_option maxHeartbeats 2000000 in
theorem tableMutate_7 (T B pos off n : Nat) (l : List UInt8) (w : World) (hT : Tab w T B l pos) (h : off + 8 ≤ l.length) (hn : n < 2 ^ 64) :
    Calls Tryz.prog 45 #[.pointer (some ⟨T, 0, none⟩), .int .u8 7, .int .u32 off, .int .u64 n] w fun e w' => e = .returned (.bool true) ∧ w.setCells B off (cellsOf (numB 7 n)) = w' := by
  have hsl := run_slice_from (P := Tryz.prog) Tryz.underlying52 sizeU8 B 0 l.length l.length .u32 off off rfl (by omega)
  rw [sOff_lt (by omega), Nat.zero_add] at hsl
  have HC := Lib.hid (fun x nq => WriteUint64_ok B off (l.length - off) (l.length - off) x _ _ (w.drewN nq) (hT.drewN nq).b (by simp [cellsOf]; omega) (by omega))
  have ht := hT.t
  have hfrom := run_f32from
  have hfrom2 := run_f64from
  have hn1 : (n : Int) < 18446744073709551616 := by omega
  have he : numB 7 n = _ := ((numB_lit 7 8 n (by decide) (by simp [numSize])).trans (wb_nat 8 n).symm)
  rw [he]
  clear he hT h
  go_enter Tryz.func45, Tryz.ntmps45
  go_wp2_with (first | (go_at_call 73; refine (HC.out _ 0).mono ?_; rintro e w' ⟨rfl, rfl⟩) | (go_at_call 119; go_in))
  go_ret
  exact ⟨rfl, rfl⟩

set_option maxHeartbeats 2000000 in
theorem tableMutate_7_dies (T B pos off n : Nat) (l : List UInt8) (w : World) (hT : Tab w T B l pos) (h : l.length < off + 8) (hn : n < 2 ^ 64) :
    Calls Tryz.prog 45 #[.pointer (some ⟨T, 0, none⟩), .int .u8 7, .int .u32 off, .int .u64 n] w (Dies w) := by
  have ht := hT.t
  have hfrom := run_f32from
  have hfrom2 := run_f64from
  have hn1 : (n : Int) < 18446744073709551616 := by omega
  by_cases h1 : off ≤ l.length
  · have hsl := run_slice_from (P := Tryz.prog) Tryz.underlying52 sizeU8 B 0 l.length l.length .u32 off off rfl h1
    have HC := Lib.hid (fun x nq => WriteUint64_dies (some ⟨B, sOff 0 off l.length, none⟩) (l.length - off) (l.length - off) x (w.drewN nq) (by simp) (by omega))
    clear hT h h1
    go_enter Tryz.func45, Tryz.ntmps45
    go_wp2_with (first | (go_at_call 73; refine (HC.out _ 0).mono ?_; rintro e w' ⟨⟨u, x, rfl⟩, m, rfl⟩) | (go_at_call 119; go_in))
    exact ⟨rfl, rfl, ⟨u, x, rfl⟩, m, rfl⟩
  · obtain ⟨u, x, m, hsl⟩ := run_slice_from_out (P := Tryz.prog) Tryz.underlying52 (some ⟨B, 0, none⟩) l.length l.length .u32 off (.inr (by omega)) w
    clear hT h h1
    go_enter Tryz.func45, Tryz.ntmps45
    go_wp2_with (first | (go_at_call 73; refine (HC.out _ 0).mono ?_; rintro e w' ⟨⟨u, x, rfl⟩, m, rfl⟩) | (go_at_call 119; go_in))
    exact ⟨rfl, rfl, ⟨u, x, rfl⟩, m, rfl⟩

set_option maxHeartbeats 2000000 in
theorem tableMutateSlot_7_none (T B pos slot n : Nat) (l : List UInt8) (w : World) (hT : Tab w T B l pos) (hs : slot < 65536) (hn : n < 2 ^ 64) (h : mOffset l pos slot = some 0) :
    Calls Tryz.prog 46 #[.pointer (some ⟨T, 0, none⟩), .int .u8 7, .int .u16 slot, .int .u64 n] w fun e w' => e = .returned (.bool false) ∧ ∃ m, w' = w.drewN m := by
  have HO := Lib.hid (Offset_ok T B pos slot 0 l w hT hs h)
  have hfrom := run_f32from
  have hfrom2 := run_f64from
  have hn1 : (n : Int) < 18446744073709551616 := by omega
  clear hT h hs
  go_enter Tryz.func46, Tryz.ntmps46
  go_wp2_with (first | (go_at_call 73; fail) | (go_at_call 134; go_in) | (go_at_call 36; refine HO.out.mono ?_; rintro e w' ⟨rfl, nq, rfl⟩) | (go_at_call 119; go_in))
  go_ret
  exact ⟨rfl, _, rfl⟩

set_option maxHeartbeats 2000000 in
theorem tableMutateSlot_7_dies (T B pos slot n : Nat) (l : List UInt8) (w : World) (hT : Tab w T B l pos) (hs : slot < 65536) (hn : n < 2 ^ 64) (h : mOffset l pos slot = none) :
    Calls Tryz.prog 46 #[.pointer (some ⟨T, 0, none⟩), .int .u8 7, .int .u16 slot, .int .u64 n] w (Dies w) := by
  have HO := Lib.hid (Offset_dies T B pos slot l w hT hs h)
  have hfrom := run_f32from
  have hfrom2 := run_f64from
  have hn1 : (n : Int) < 18446744073709551616 := by omega
  clear hT h hs
  go_enter Tryz.func46, Tryz.ntmps46
  go_wp2_with (first | (go_at_call 73; fail) | (go_at_call 134; go_in) | (go_at_call 36; refine HO.out.mono ?_; rintro e w' ⟨⟨u, x, rfl⟩, m, rfl⟩) | (go_at_call 119; go_in))
  exact ⟨rfl, rfl, ⟨u, x, rfl⟩, m, rfl⟩

set_option maxHeartbeats 2000000 in
theorem tableMutateSlot_7_ok (T B pos slot n o : Nat) (l : List UInt8) (w : World) (hT : Tab w T B l pos) (hs : slot < 65536) (hn : n < 2 ^ 64) (h : mOffset l pos slot = some o) (ho : o ≠ 0) (hg : w32 (pos + o) + 8 ≤ l.length) :
    Calls Tryz.prog 46 #[.pointer (some ⟨T, 0, none⟩), .int .u8 7, .int .u16 slot, .int .u64 n] w fun e w' => e = .returned (.bool true) ∧ ∃ m, (w.drewN m).setCells B (w32 (pos + o)) (cellsOf (numB 7 n)) = w' := by
  have HO := Lib.hid (Offset_ok T B pos slot o l w hT hs h)
  have hob : ((o : Int) != 0) = true := by simp; omega
  have ho1 := mOffset_lt h
  have hsl := run_slice_from (P := Tryz.prog) Tryz.underlying52 sizeU8 B 0 l.length l.length .u32 (((pos : Int) + o) % 4294967296) (w32 (pos + o)) (by unfold w32; omega) (by omega)
  rw [sOff_lt (by omega), Nat.zero_add] at hsl
  have HC := Lib.hid (fun x nq => WriteUint64_ok B (w32 (pos + o)) (l.length - w32 (pos + o)) (l.length - w32 (pos + o)) x _ _ (w.drewN nq) (hT.drewN nq).b (by simp [cellsOf]; omega) (by omega))
  have ht := hT.t
  have hp := hT.p
  have hfrom := run_f32from
  have hfrom2 := run_f64from
  have hn1 : (n : Int) < 18446744073709551616 := by omega
  have hp1 := hT.hp
  have he : numB 7 n = _ := ((numB_lit 7 8 n (by decide) (by simp [numSize])).trans (wb_nat 8 n).symm)
  rw [he]
  clear he hT h hs hg ho
  generalize w32 (pos + o) = q at *
  go_enter Tryz.func46, Tryz.ntmps46
  go_wp2_with (first | (go_at_call 73; refine (HC.out _ _).mono ?_; rintro e w' ⟨rfl, rfl⟩) | (go_at_call 134; go_in) | (go_at_call 36; refine HO.out.mono ?_; rintro e w' ⟨rfl, nq, rfl⟩) | (go_at_call 119; go_in))
  go_ret
  exact ⟨rfl, _, rfl⟩

set_option maxHeartbeats 2000000 in
theorem tableMutateSlot_7_out (T B pos slot n o : Nat) (l : List UInt8) (w : World) (hT : Tab w T B l pos) (hs : slot < 65536) (hn : n < 2 ^ 64) (h : mOffset l pos slot = some o) (ho : o ≠ 0) (hg : l.length < w32 (pos + o) + 8) :
    Calls Tryz.prog 46 #[.pointer (some ⟨T, 0, none⟩), .int .u8 7, .int .u16 slot, .int .u64 n] w (Dies w) := by
  have HO := Lib.hid (Offset_ok T B pos slot o l w hT hs h)
  have hob : ((o : Int) != 0) = true := by simp; omega
  have ho1 := mOffset_lt h
  have ht := hT.t
  have hp := hT.p
  have hp1 := hT.hp
  have hfrom := run_f32from
  have hfrom2 := run_f64from
  have hn1 : (n : Int) < 18446744073709551616 := by omega
  by_cases h1 : w32 (pos + o) ≤ l.length
  · have hsl := run_slice_from (P := Tryz.prog) Tryz.underlying52 sizeU8 B 0 l.length l.length .u32 (((pos : Int) + o) % 4294967296) (w32 (pos + o)) (by unfold w32; omega) h1
    have HC := Lib.hid (fun x nq => WriteUint64_dies (some ⟨B, sOff 0 (w32 (pos + o)) l.length, none⟩) (l.length - w32 (pos + o)) (l.length - w32 (pos + o)) x (w.drewN nq) (by simp) (by omega))
    clear hT h hs hg h1 ho
    generalize w32 (pos + o) = q at *
    go_enter Tryz.func46, Tryz.ntmps46
    go_wp2_with (first | (go_at_call 73; refine (HC.out _ _).mono ?_; rintro e w' ⟨⟨u, x, rfl⟩, m, rfl⟩) | (go_at_call 134; go_in) | (go_at_call 36; refine HO.out.mono ?_; rintro e w' ⟨rfl, nq, rfl⟩) | (go_at_call 119; go_in))
    exact ⟨rfl, rfl, rfl, ⟨u, x, rfl⟩, _, rfl⟩
  · have hsl := fun w => run_slice_from_out (P := Tryz.prog) Tryz.underlying52 (some ⟨B, 0, none⟩) l.length l.length .u32 (((pos : Int) + o) % 4294967296) (.inr (by unfold w32 at h1; omega)) w
    have HS := Lib.hid hsl; clear hsl
    clear hT h hs hg h1 ho
    go_enter Tryz.func46, Tryz.ntmps46
    go_wp2_with (first | (go_at_call 73; fail) | (go_at_call 134; go_in) | (go_at_call 36; refine HO.out.mono ?_; rintro e w' ⟨rfl, nq, rfl⟩; obtain ⟨u, x, m, hsl⟩ := HS.out (w.drewN nq)) | (go_at_call 119; go_in))
    exact ⟨rfl, rfl, rfl, ⟨u, x, rfl⟩, _, rfl⟩

set_option maxHeartbeats 2000000 in
theorem tableMutate_8 (T B pos off n : Nat) (l : List UInt8) (w : World) (hT : Tab w T B l pos) (h : off + 8 ≤ l.length) (hn : n < 2 ^ 64) :
    Calls Tryz.prog 45 #[.pointer (some ⟨T, 0, none⟩), .int .u8 8, .int .u32 off, .int .u64 n] w fun e w' => e = .returned (.bool true) ∧ w.setCells B off (cellsOf (numB 8 n)) = w' := by
  have hsl := run_slice_from (P := Tryz.prog) Tryz.underlying52 sizeU8 B 0 l.length l.length .u32 off off rfl (by omega)
  rw [sOff_lt (by omega), Nat.zero_add] at hsl
  have HC := Lib.hid (fun x nq => WriteInt64_ok B off (l.length - off) (l.length - off) x _ _ (w.drewN nq) (hT.drewN nq).b (by simp [cellsOf]; omega) (by omega))
  have ht := hT.t
  have hfrom := run_f32from
  have hfrom2 := run_f64from
  have hn1 : (n : Int) < 18446744073709551616 := by omega
  have he : numB 8 n = _ := ((numB_lit 8 8 n (by decide) (by simp [numSize])).trans (wb_64 n).symm)
  rw [he]
  clear he hT h
  go_enter Tryz.func45, Tryz.ntmps45
  go_wp2_with (first | (go_at_call 74; refine (HC.out _ 0).mono ?_; rintro e w' ⟨rfl, rfl⟩) | (go_at_call 120; go_in))
  go_ret
  exact ⟨rfl, rfl⟩

set_option maxHeartbeats 2000000 in
theorem tableMutate_8_dies (T B pos off n : Nat) (l : List UInt8) (w : World) (hT : Tab w T B l pos) (h : l.length < off + 8) (hn : n < 2 ^ 64) :
    Calls Tryz.prog 45 #[.pointer (some ⟨T, 0, none⟩), .int .u8 8, .int .u32 off, .int .u64 n] w (Dies w) := by
  have ht := hT.t
  have hfrom := run_f32from
  have hfrom2 := run_f64from
  have hn1 : (n : Int) < 18446744073709551616 := by omega
  by_cases h1 : off ≤ l.length
  · have hsl := run_slice_from (P := Tryz.prog) Tryz.underlying52 sizeU8 B 0 l.length l.length .u32 off off rfl h1
    have HC := Lib.hid (fun x nq => WriteInt64_dies (some ⟨B, sOff 0 off l.length, none⟩) (l.length - off) (l.length - off) x (w.drewN nq) (by simp) (by omega))
    clear hT h h1
    go_enter Tryz.func45, Tryz.ntmps45
    go_wp2_with (first | (go_at_call 74; refine (HC.out _ 0).mono ?_; rintro e w' ⟨⟨u, x, rfl⟩, m, rfl⟩) | (go_at_call 120; go_in))
    exact ⟨rfl, rfl, ⟨u, x, rfl⟩, m, rfl⟩
  · obtain ⟨u, x, m, hsl⟩ := run_slice_from_out (P := Tryz.prog) Tryz.underlying52 (some ⟨B, 0, none⟩) l.length l.length .u32 off (.inr (by omega)) w
    clear hT h h1
    go_enter Tryz.func45, Tryz.ntmps45
    go_wp2_with (first | (go_at_call 74; refine (HC.out _ 0).mono ?_; rintro e w' ⟨⟨u, x, rfl⟩, m, rfl⟩) | (go_at_call 120; go_in))
    exact ⟨rfl, rfl, ⟨u, x, rfl⟩, m, rfl⟩

set_option maxHeartbeats 2000000 in
theorem tableMutateSlot_8_none (T B pos slot n : Nat) (l : List UInt8) (w : World) (hT : Tab w T B l pos) (hs : slot < 65536) (hn : n < 2 ^ 64) (h : mOffset l pos slot = some 0) :
    Calls Tryz.prog 46 #[.pointer (some ⟨T, 0, none⟩), .int .u8 8, .int .u16 slot, .int .u64 n] w fun e w' => e = .returned (.bool false) ∧ ∃ m, w' = w.drewN m := by
  have HO := Lib.hid (Offset_ok T B pos slot 0 l w hT hs h)
  have hfrom := run_f32from
  have hfrom2 := run_f64from
  have hn1 : (n : Int) < 18446744073709551616 := by omega
  clear hT h hs
  go_enter Tryz.func46, Tryz.ntmps46
  go_wp2_with (first | (go_at_call 74; fail) | (go_at_call 135; go_in) | (go_at_call 36; refine HO.out.mono ?_; rintro e w' ⟨rfl, nq, rfl⟩) | (go_at_call 120; go_in))
  go_ret
  exact ⟨rfl, _, rfl⟩

set_option maxHeartbeats 2000000 in
theorem tableMutateSlot_8_dies (T B pos slot n : Nat) (l : List UInt8) (w : World) (hT : Tab w T B l pos) (hs : slot < 65536) (hn : n < 2 ^ 64) (h : mOffset l pos slot = none) :
    Calls Tryz.prog 46 #[.pointer (some ⟨T, 0, none⟩), .int .u8 8, .int .u16 slot, .int .u64 n] w (Dies w) := by
  have HO := Lib.hid (Offset_dies T B pos slot l w hT hs h)
  have hfrom := run_f32from
  have hfrom2 := run_f64from
  have hn1 : (n : Int) < 18446744073709551616 := by omega
  clear hT h hs
  go_enter Tryz.func46, Tryz.ntmps46
  go_wp2_with (first | (go_at_call 74; fail) | (go_at_call 135; go_in) | (go_at_call 36; refine HO.out.mono ?_; rintro e w' ⟨⟨u, x, rfl⟩, m, rfl⟩) | (go_at_call 120; go_in))
  exact ⟨rfl, rfl, ⟨u, x, rfl⟩, m, rfl⟩

set_option maxHeartbeats 2000000 in
theorem tableMutateSlot_8_ok (T B pos slot n o : Nat) (l : List UInt8) (w : World) (hT : Tab w T B l pos) (hs : slot < 65536) (hn : n < 2 ^ 64) (h : mOffset l pos slot = some o) (ho : o ≠ 0) (hg : w32 (pos + o) + 8 ≤ l.length) :
    Calls Tryz.prog 46 #[.pointer (some ⟨T, 0, none⟩), .int .u8 8, .int .u16 slot, .int .u64 n] w fun e w' => e = .returned (.bool true) ∧ ∃ m, (w.drewN m).setCells B (w32 (pos + o)) (cellsOf (numB 8 n)) = w' := by
  have HO := Lib.hid (Offset_ok T B pos slot o l w hT hs h)
  have hob : ((o : Int) != 0) = true := by simp; omega
  have ho1 := mOffset_lt h
  have hsl := run_slice_from (P := Tryz.prog) Tryz.underlying52 sizeU8 B 0 l.length l.length .u32 (((pos : Int) + o) % 4294967296) (w32 (pos + o)) (by unfold w32; omega) (by omega)
  rw [sOff_lt (by omega), Nat.zero_add] at hsl
  have HC := Lib.hid (fun x nq => WriteInt64_ok B (w32 (pos + o)) (l.length - w32 (pos + o)) (l.length - w32 (pos + o)) x _ _ (w.drewN nq) (hT.drewN nq).b (by simp [cellsOf]; omega) (by omega))
  have ht := hT.t
  have hp := hT.p
  have hfrom := run_f32from
  have hfrom2 := run_f64from
  have hn1 : (n : Int) < 18446744073709551616 := by omega
  have hp1 := hT.hp
  have he : numB 8 n = _ := ((numB_lit 8 8 n (by decide) (by simp [numSize])).trans (wb_64 n).symm)
  rw [he]
  clear he hT h hs hg ho
  generalize w32 (pos + o) = q at *
  go_enter Tryz.func46, Tryz.ntmps46
  go_wp2_with (first | (go_at_call 74; refine (HC.out _ _).mono ?_; rintro e w' ⟨rfl, rfl⟩) | (go_at_call 135; go_in) | (go_at_call 36; refine HO.out.mono ?_; rintro e w' ⟨rfl, nq, rfl⟩) | (go_at_call 120; go_in))
  go_ret
  exact ⟨rfl, _, rfl⟩

set_option maxHeartbeats 2000000 in
theorem tableMutateSlot_8_out (T B pos slot n o : Nat) (l : List UInt8) (w : World) (hT : Tab w T B l pos) (hs : slot < 65536) (hn : n < 2 ^ 64) (h : mOffset l pos slot = some o) (ho : o ≠ 0) (hg : l.length < w32 (pos + o) + 8) :
    Calls Tryz.prog 46 #[.pointer (some ⟨T, 0, none⟩), .int .u8 8, .int .u16 slot, .int .u64 n] w (Dies w) := by
  have HO := Lib.hid (Offset_ok T B pos slot o l w hT hs h)
  have hob : ((o : Int) != 0) = true := by simp; omega
  have ho1 := mOffset_lt h
  have ht := hT.t
  have hp := hT.p
  have hp1 := hT.hp
  have hfrom := run_f32from
  have hfrom2 := run_f64from
  have hn1 : (n : Int) < 18446744073709551616 := by omega
  by_cases h1 : w32 (pos + o) ≤ l.length
  · have hsl := run_slice_from (P := Tryz.prog) Tryz.underlying52 sizeU8 B 0 l.length l.length .u32 (((pos : Int) + o) % 4294967296) (w32 (pos + o)) (by unfold w32; omega) h1
    have HC := Lib.hid (fun x nq => WriteInt64_dies (some ⟨B, sOff 0 (w32 (pos + o)) l.length, none⟩) (l.length - w32 (pos + o)) (l.length - w32 (pos + o)) x (w.drewN nq) (by simp) (by omega))
    clear hT h hs hg h1 ho
    generalize w32 (pos + o) = q at *
    go_enter Tryz.func46, Tryz.ntmps46
    go_wp2_with (first | (go_at_call 74; refine (HC.out _ _).mono ?_; rintro e w' ⟨⟨u, x, rfl⟩, m, rfl⟩) | (go_at_call 135; go_in) | (go_at_call 36; refine HO.out.mono ?_; rintro e w' ⟨rfl, nq, rfl⟩) | (go_at_call 120; go_in))
    exact ⟨rfl, rfl, rfl, ⟨u, x, rfl⟩, _, rfl⟩
  · have hsl := fun w => run_slice_from_out (P := Tryz.prog) Tryz.underlying52 (some ⟨B, 0, none⟩) l.length l.length .u32 (((pos : Int) + o) % 4294967296) (.inr (by unfold w32 at h1; omega)) w
    have HS := Lib.hid hsl; clear hsl
    clear hT h hs hg h1 ho
    go_enter Tryz.func46, Tryz.ntmps46
    go_wp2_with (first | (go_at_call 74; fail) | (go_at_call 135; go_in) | (go_at_call 36; refine HO.out.mono ?_; rintro e w' ⟨rfl, nq, rfl⟩; obtain ⟨u, x, m, hsl⟩ := HS.out (w.drewN nq)) | (go_at_call 120; go_in))
    exact ⟨rfl, rfl, rfl, ⟨u, x, rfl⟩, _, rfl⟩

set_option maxHeartbeats 2000000 in
theorem tableMutate_9 (T B pos off n : Nat) (l : List UInt8) (w : World) (hT : Tab w T B l pos) (h : off + 4 ≤ l.length) (hn : n < 2 ^ 64) :
    Calls Tryz.prog 45 #[.pointer (some ⟨T, 0, none⟩), .int .u8 9, .int .u32 off, .int .u64 n] w fun e w' => e = .returned (.bool true) ∧ w.setCells B off (cellsOf (numB 9 n)) = w' := by
  have hsl := run_slice_from (P := Tryz.prog) Tryz.underlying52 sizeU8 B 0 l.length l.length .u32 off off rfl (by omega)
  rw [sOff_lt (by omega), Nat.zero_add] at hsl
  have HC := Lib.hid (fun x nq => WriteFloat32_ok B off (l.length - off) (l.length - off) x _ _ (w.drewN nq) (hT.drewN nq).b (by simp [cellsOf]; omega) (by omega))
  have ht := hT.t
  have hfrom := run_f32from
  have hfrom2 := run_f64from
  have hn1 : (n : Int) < 18446744073709551616 := by omega
  have he : numB 9 n = _ := ((numB_lit 9 4 n (by decide) (by simp [numSize])).trans (wb_mod 4 n 4294967296 rfl).symm)
  rw [he]
  clear he hT h
  go_enter Tryz.func45, Tryz.ntmps45
  go_wp2_with (first | (go_at_call 75; refine (HC.out _ 0).mono ?_; rintro e w' ⟨rfl, rfl⟩) | (go_at_call 121; go_in))
  go_ret
  exact ⟨rfl, rfl⟩

set_option maxHeartbeats 2000000 in
theorem tableMutate_9_dies (T B pos off n : Nat) (l : List UInt8) (w : World) (hT : Tab w T B l pos) (h : l.length < off + 4) (hn : n < 2 ^ 64) :
    Calls Tryz.prog 45 #[.pointer (some ⟨T, 0, none⟩), .int .u8 9, .int .u32 off, .int .u64 n] w (Dies w) := by
  have ht := hT.t
  have hfrom := run_f32from
  have hfrom2 := run_f64from
  have hn1 : (n : Int) < 18446744073709551616 := by omega
  by_cases h1 : off ≤ l.length
  · have hsl := run_slice_from (P := Tryz.prog) Tryz.underlying52 sizeU8 B 0 l.length l.length .u32 off off rfl h1
    have HC := Lib.hid (fun x nq => WriteFloat32_dies (some ⟨B, sOff 0 off l.length, none⟩) (l.length - off) (l.length - off) x (w.drewN nq) (by simp) (by omega))
    clear hT h h1
    go_enter Tryz.func45, Tryz.ntmps45
    go_wp2_with (first | (go_at_call 75; refine (HC.out _ 0).mono ?_; rintro e w' ⟨⟨u, x, rfl⟩, m, rfl⟩) | (go_at_call 121; go_in))
    exact ⟨rfl, rfl, ⟨u, x, rfl⟩, m, rfl⟩
  · obtain ⟨u, x, m, hsl⟩ := run_slice_from_out (P := Tryz.prog) Tryz.underlying52 (some ⟨B, 0, none⟩) l.length l.length .u32 off (.inr (by omega)) w
    clear hT h h1
    go_enter Tryz.func45, Tryz.ntmps45
    go_wp2_with (first | (go_at_call 75; refine (HC.out _ 0).mono ?_; rintro e w' ⟨⟨u, x, rfl⟩, m, rfl⟩) | (go_at_call 121; go_in))
    exact ⟨rfl, rfl, ⟨u, x, rfl⟩, m, rfl⟩

set_option maxHeartbeats 2000000 in
theorem tableMutateSlot_9_none (T B pos slot n : Nat) (l : List UInt8) (w : World) (hT : Tab w T B l pos) (hs : slot < 65536) (hn : n < 2 ^ 64) (h : mOffset l pos slot = some 0) :
    Calls Tryz.prog 46 #[.pointer (some ⟨T, 0, none⟩), .int .u8 9, .int .u16 slot, .int .u64 n] w fun e w' => e = .returned (.bool false) ∧ ∃ m, w' = w.drewN m := by
  have HO := Lib.hid (Offset_ok T B pos slot 0 l w hT hs h)
  have hfrom := run_f32from
  have hfrom2 := run_f64from
  have hn1 : (n : Int) < 18446744073709551616 := by omega
  clear hT h hs
  go_enter Tryz.func46, Tryz.ntmps46
  go_wp2_with (first | (go_at_call 75; fail) | (go_at_call 136; go_in) | (go_at_call 36; refine HO.out.mono ?_; rintro e w' ⟨rfl, nq, rfl⟩) | (go_at_call 121; go_in))
  go_ret
  exact ⟨rfl, _, rfl⟩

set_option maxHeartbeats 2000000 in
theorem tableMutateSlot_9_dies (T B pos slot n : Nat) (l : List UInt8) (w : World) (hT : Tab w T B l pos) (hs : slot < 65536) (hn : n < 2 ^ 64) (h : mOffset l pos slot = none) :
    Calls Tryz.prog 46 #[.pointer (some ⟨T, 0, none⟩), .int .u8 9, .int .u16 slot, .int .u64 n] w (Dies w) := by
  have HO := Lib.hid (Offset_dies T B pos slot l w hT hs h)
  have hfrom := run_f32from
  have hfrom2 := run_f64from
  have hn1 : (n : Int) < 18446744073709551616 := by omega
  clear hT h hs
  go_enter Tryz.func46, Tryz.ntmps46
  go_wp2_with (first | (go_at_call 75; fail) | (go_at_call 136; go_in) | (go_at_call 36; refine HO.out.mono ?_; rintro e w' ⟨⟨u, x, rfl⟩, m, rfl⟩) | (go_at_call 121; go_in))
  exact ⟨rfl, rfl, ⟨u, x, rfl⟩, m, rfl⟩

set_option maxHeartbeats 2000000 in
theorem tableMutateSlot_9_ok (T B pos slot n o : Nat) (l : List UInt8) (w : World) (hT : Tab w T B l pos) (hs : slot < 65536) (hn : n < 2 ^ 64) (h : mOffset l pos slot = some o) (ho : o ≠ 0) (hg : w32 (pos + o) + 4 ≤ l.length) :
    Calls Tryz.prog 46 #[.pointer (some ⟨T, 0, none⟩), .int .u8 9, .int .u16 slot, .int .u64 n] w fun e w' => e = .returned (.bool true) ∧ ∃ m, (w.drewN m).setCells B (w32 (pos + o)) (cellsOf (numB 9 n)) = w' := by
  have HO := Lib.hid (Offset_ok T B pos slot o l w hT hs h)
  have hob : ((o : Int) != 0) = true := by simp; omega
  have ho1 := mOffset_lt h
  have hsl := run_slice_from (P := Tryz.prog) Tryz.underlying52 sizeU8 B 0 l.length l.length .u32 (((pos : Int) + o) % 4294967296) (w32 (pos + o)) (by unfold w32; omega) (by omega)
  rw [sOff_lt (by omega), Nat.zero_add] at hsl
  have HC := Lib.hid (fun x nq => WriteFloat32_ok B (w32 (pos + o)) (l.length - w32 (pos + o)) (l.length - w32 (pos + o)) x _ _ (w.drewN nq) (hT.drewN nq).b (by simp [cellsOf]; omega) (by omega))
  have ht := hT.t
  have hp := hT.p
  have hfrom := run_f32from
  have hfrom2 := run_f64from
  have hn1 : (n : Int) < 18446744073709551616 := by omega
  have hp1 := hT.hp
  have he : numB 9 n = _ := ((numB_lit 9 4 n (by decide) (by simp [numSize])).trans (wb_mod 4 n 4294967296 rfl).symm)
  rw [he]
  clear he hT h hs hg ho
  generalize w32 (pos + o) = q at *
  go_enter Tryz.func46, Tryz.ntmps46
  go_wp2_with (first | (go_at_call 75; refine (HC.out _ _).mono ?_; rintro e w' ⟨rfl, rfl⟩) | (go_at_call 136; go_in) | (go_at_call 36; refine HO.out.mono ?_; rintro e w' ⟨rfl, nq, rfl⟩) | (go_at_call 121; go_in))
  go_ret
  exact ⟨rfl, _, rfl⟩

set_option maxHeartbeats 2000000 in
theorem tableMutateSlot_9_out (T B pos slot n o : Nat) (l : List UInt8) (w : World) (hT : Tab w T B l pos) (hs : slot < 65536) (hn : n < 2 ^ 64) (h : mOffset l pos slot = some o) (ho : o ≠ 0) (hg : l.length < w32 (pos + o) + 4) :
    Calls Tryz.prog 46 #[.pointer (some ⟨T, 0, none⟩), .int .u8 9, .int .u16 slot, .int .u64 n] w (Dies w) := by
  have HO := Lib.hid (Offset_ok T B pos slot o l w hT hs h)
  have hob : ((o : Int) != 0) = true := by simp; omega
  have ho1 := mOffset_lt h
  have ht := hT.t
  have hp := hT.p
  have hp1 := hT.hp
  have hfrom := run_f32from
  have hfrom2 := run_f64from
  have hn1 : (n : Int) < 18446744073709551616 := by omega
  by_cases h1 : w32 (pos + o) ≤ l.length
  · have hsl := run_slice_from (P := Tryz.prog) Tryz.underlying52 sizeU8 B 0 l.length l.length .u32 (((pos : Int) + o) % 4294967296) (w32 (pos + o)) (by unfold w32; omega) h1
    have HC := Lib.hid (fun x nq => WriteFloat32_dies (some ⟨B, sOff 0 (w32 (pos + o)) l.length, none⟩) (l.length - w32 (pos + o)) (l.length - w32 (pos + o)) x (w.drewN nq) (by simp) (by omega))
    clear hT h hs hg h1 ho
    generalize w32 (pos + o) = q at *
    go_enter Tryz.func46, Tryz.ntmps46
    go_wp2_with (first | (go_at_call 75; refine (HC.out _ _).mono ?_; rintro e w' ⟨⟨u, x, rfl⟩, m, rfl⟩) | (go_at_call 136; go_in) | (go_at_call 36; refine HO.out.mono ?_; rintro e w' ⟨rfl, nq, rfl⟩) | (go_at_call 121; go_in))
    exact ⟨rfl, rfl, rfl, ⟨u, x, rfl⟩, _, rfl⟩
  · have hsl := fun w => run_slice_from_out (P := Tryz.prog) Tryz.underlying52 (some ⟨B, 0, none⟩) l.length l.length .u32 (((pos : Int) + o) % 4294967296) (.inr (by unfold w32 at h1; omega)) w
    have HS := Lib.hid hsl; clear hsl
    clear hT h hs hg h1 ho
    go_enter Tryz.func46, Tryz.ntmps46
    go_wp2_with (first | (go_at_call 75; fail) | (go_at_call 136; go_in) | (go_at_call 36; refine HO.out.mono ?_; rintro e w' ⟨rfl, nq, rfl⟩; obtain ⟨u, x, m, hsl⟩ := HS.out (w.drewN nq)) | (go_at_call 121; go_in))
    exact ⟨rfl, rfl, rfl, ⟨u, x, rfl⟩, _, rfl⟩

set_option maxHeartbeats 2000000 in
theorem tableMutate_10 (T B pos off n : Nat) (l : List UInt8) (w : World) (hT : Tab w T B l pos) (h : off + 8 ≤ l.length) (hn : n < 2 ^ 64) :
    Calls Tryz.prog 45 #[.pointer (some ⟨T, 0, none⟩), .int .u8 10, .int .u32 off, .int .u64 n] w fun e w' => e = .returned (.bool true) ∧ w.setCells B off (cellsOf (numB 10 n)) = w' := by
  have hsl := run_slice_from (P := Tryz.prog) Tryz.underlying52 sizeU8 B 0 l.length l.length .u32 off off rfl (by omega)
  rw [sOff_lt (by omega), Nat.zero_add] at hsl
  have HC := Lib.hid (fun x nq => WriteFloat64_ok B off (l.length - off) (l.length - off) x _ _ (w.drewN nq) (hT.drewN nq).b (by simp [cellsOf]; omega) (by omega))
  have ht := hT.t
  have hfrom := run_f32from
  have hfrom2 := run_f64from
  have hn1 : (n : Int) < 18446744073709551616 := by omega
  have he : numB 10 n = _ := ((numB_lit 10 8 n (by decide) (by simp [numSize])).trans (wb_nat 8 n).symm)
  rw [he]
  clear he hT h
  go_enter Tryz.func45, Tryz.ntmps45
  go_wp2_with (first | (go_at_call 77; refine (HC.out _ 0).mono ?_; rintro e w' ⟨rfl, rfl⟩) | (go_at_call 122; go_in))
  go_ret
  exact ⟨rfl, rfl⟩

set_option maxHeartbeats 2000000 in
theorem tableMutate_10_dies (T B pos off n : Nat) (l : List UInt8) (w : World) (hT : Tab w T B l pos) (h : l.length < off + 8) (hn : n < 2 ^ 64) :
    Calls Tryz.prog 45 #[.pointer (some ⟨T, 0, none⟩), .int .u8 10, .int .u32 off, .int .u64 n] w (Dies w) := by
  have ht := hT.t
  have hfrom := run_f32from
  have hfrom2 := run_f64from
  have hn1 : (n : Int) < 18446744073709551616 := by omega
  by_cases h1 : off ≤ l.length
  · have hsl := run_slice_from (P := Tryz.prog) Tryz.underlying52 sizeU8 B 0 l.length l.length .u32 off off rfl h1
    have HC := Lib.hid (fun x nq => WriteFloat64_dies (some ⟨B, sOff 0 off l.length, none⟩) (l.length - off) (l.length - off) x (w.drewN nq) (by simp) (by omega))
    clear hT h h1
    go_enter Tryz.func45, Tryz.ntmps45
    go_wp2_with (first | (go_at_call 77; refine (HC.out _ 0).mono ?_; rintro e w' ⟨⟨u, x, rfl⟩, m, rfl⟩) | (go_at_call 122; go_in))
    exact ⟨rfl, rfl, ⟨u, x, rfl⟩, m, rfl⟩
  · obtain ⟨u, x, m, hsl⟩ := run_slice_from_out (P := Tryz.prog) Tryz.underlying52 (some ⟨B, 0, none⟩) l.length l.length .u32 off (.inr (by omega)) w
    clear hT h h1
    go_enter Tryz.func45, Tryz.ntmps45
    go_wp2_with (first | (go_at_call 77; refine (HC.out _ 0).mono ?_; rintro e w' ⟨⟨u, x, rfl⟩, m, rfl⟩) | (go_at_call 122; go_in))
    exact ⟨rfl, rfl, ⟨u, x, rfl⟩, m, rfl⟩

set_option maxHeartbeats 2000000 in
theorem tableMutateSlot_10_none (T B pos slot n : Nat) (l : List UInt8) (w : World) (hT : Tab w T B l pos) (hs : slot < 65536) (hn : n < 2 ^ 64) (h : mOffset l pos slot = some 0) :
    Calls Tryz.prog 46 #[.pointer (some ⟨T, 0, none⟩), .int .u8 10, .int .u16 slot, .int .u64 n] w fun e w' => e = .returned (.bool false) ∧ ∃ m, w' = w.drewN m := by
  have HO := Lib.hid (Offset_ok T B pos slot 0 l w hT hs h)
  have hfrom := run_f32from
  have hfrom2 := run_f64from
  have hn1 : (n : Int) < 18446744073709551616 := by omega
  clear hT h hs
  go_enter Tryz.func46, Tryz.ntmps46
  go_wp2_with (first | (go_at_call 77; fail) | (go_at_call 137; go_in) | (go_at_call 36; refine HO.out.mono ?_; rintro e w' ⟨rfl, nq, rfl⟩) | (go_at_call 122; go_in))
  go_ret
  exact ⟨rfl, _, rfl⟩

set_option maxHeartbeats 2000000 in
theorem tableMutateSlot_10_dies (T B pos slot n : Nat) (l : List UInt8) (w : World) (hT : Tab w T B l pos) (hs : slot < 65536) (hn : n < 2 ^ 64) (h : mOffset l pos slot = none) :
    Calls Tryz.prog 46 #[.pointer (some ⟨T, 0, none⟩), .int .u8 10, .int .u16 slot, .int .u64 n] w (Dies w) := by
  have HO := Lib.hid (Offset_dies T B pos slot l w hT hs h)
  have hfrom := run_f32from
  have hfrom2 := run_f64from
  have hn1 : (n : Int) < 18446744073709551616 := by omega
  clear hT h hs
  go_enter Tryz.func46, Tryz.ntmps46
  go_wp2_with (first | (go_at_call 77; fail) | (go_at_call 137; go_in) | (go_at_call 36; refine HO.out.mono ?_; rintro e w' ⟨⟨u, x, rfl⟩, m, rfl⟩) | (go_at_call 122; go_in))
  exact ⟨rfl, rfl, ⟨u, x, rfl⟩, m, rfl⟩

set_option maxHeartbeats 2000000 in
theorem tableMutateSlot_10_ok (T B pos slot n o : Nat) (l : List UInt8) (w : World) (hT : Tab w T B l pos) (hs : slot < 65536) (hn : n < 2 ^ 64) (h : mOffset l pos slot = some o) (ho : o ≠ 0) (hg : w32 (pos + o) + 8 ≤ l.length) :
    Calls Tryz.prog 46 #[.pointer (some ⟨T, 0, none⟩), .int .u8 10, .int .u16 slot, .int .u64 n] w fun e w' => e = .returned (.bool true) ∧ ∃ m, (w.drewN m).setCells B (w32 (pos + o)) (cellsOf (numB 10 n)) = w' := by
  have HO := Lib.hid (Offset_ok T B pos slot o l w hT hs h)
  have hob : ((o : Int) != 0) = true := by simp; omega
  have ho1 := mOffset_lt h
  have hsl := run_slice_from (P := Tryz.prog) Tryz.underlying52 sizeU8 B 0 l.length l.length .u32 (((pos : Int) + o) % 4294967296) (w32 (pos + o)) (by unfold w32; omega) (by omega)
  rw [sOff_lt (by omega), Nat.zero_add] at hsl
  have HC := Lib.hid (fun x nq => WriteFloat64_ok B (w32 (pos + o)) (l.length - w32 (pos + o)) (l.length - w32 (pos + o)) x _ _ (w.drewN nq) (hT.drewN nq).b (by simp [cellsOf]; omega) (by omega))
  have ht := hT.t
  have hp := hT.p
  have hfrom := run_f32from
  have hfrom2 := run_f64from
  have hn1 : (n : Int) < 18446744073709551616 := by omega
  have hp1 := hT.hp
  have he : numB 10 n = _ := ((numB_lit 10 8 n (by decide) (by simp [numSize])).trans (wb_nat 8 n).symm)
  rw [he]
  clear he hT h hs hg ho
  generalize w32 (pos + o) = q at *
  go_enter Tryz.func46, Tryz.ntmps46
  go_wp2_with (first | (go_at_call 77; refine (HC.out _ _).mono ?_; rintro e w' ⟨rfl, rfl⟩) | (go_at_call 137; go_in) | (go_at_call 36; refine HO.out.mono ?_; rintro e w' ⟨rfl, nq, rfl⟩) | (go_at_call 122; go_in))
  go_ret
  exact ⟨rfl, _, rfl⟩

set_option maxHeartbeats 2000000 in
theorem tableMutateSlot_10_out (T B pos slot n o : Nat) (l : List UInt8) (w : World) (hT : Tab w T B l pos) (hs : slot < 65536) (hn : n < 2 ^ 64) (h : mOffset l pos slot = some o) (ho : o ≠ 0) (hg : l.length < w32 (pos + o) + 8) :
    Calls Tryz.prog 46 #[.pointer (some ⟨T, 0, none⟩), .int .u8 10, .int .u16 slot, .int .u64 n] w (Dies w) := by
  have HO := Lib.hid (Offset_ok T B pos slot o l w hT hs h)
  have hob : ((o : Int) != 0) = true := by simp; omega
  have ho1 := mOffset_lt h
  have ht := hT.t
  have hp := hT.p
  have hp1 := hT.hp
  have hfrom := run_f32from
  have hfrom2 := run_f64from
  have hn1 : (n : Int) < 18446744073709551616 := by omega
  by_cases h1 : w32 (pos + o) ≤ l.length
  · have hsl := run_slice_from (P := Tryz.prog) Tryz.underlying52 sizeU8 B 0 l.length l.length .u32 (((pos : Int) + o) % 4294967296) (w32 (pos + o)) (by unfold w32; omega) h1
    have HC := Lib.hid (fun x nq => WriteFloat64_dies (some ⟨B, sOff 0 (w32 (pos + o)) l.length, none⟩) (l.length - w32 (pos + o)) (l.length - w32 (pos + o)) x (w.drewN nq) (by simp) (by omega))
    clear hT h hs hg h1 ho
    generalize w32 (pos + o) = q at *
    go_enter Tryz.func46, Tryz.ntmps46
    go_wp2_with (first | (go_at_call 77; refine (HC.out _ _).mono ?_; rintro e w' ⟨⟨u, x, rfl⟩, m, rfl⟩) | (go_at_call 137; go_in) | (go_at_call 36; refine HO.out.mono ?_; rintro e w' ⟨rfl, nq, rfl⟩) | (go_at_call 122; go_in))
    exact ⟨rfl, rfl, rfl, ⟨u, x, rfl⟩, _, rfl⟩
  · have hsl := fun w => run_slice_from_out (P := Tryz.prog) Tryz.underlying52 (some ⟨B, 0, none⟩) l.length l.length .u32 (((pos : Int) + o) % 4294967296) (.inr (by unfold w32 at h1; omega)) w
    have HS := Lib.hid hsl; clear hsl
    clear hT h hs hg h1 ho
    go_enter Tryz.func46, Tryz.ntmps46
    go_wp2_with (first | (go_at_call 77; fail) | (go_at_call 137; go_in) | (go_at_call 36; refine HO.out.mono ?_; rintro e w' ⟨rfl, nq, rfl⟩; obtain ⟨u, x, m, hsl⟩ := HS.out (w.drewN nq)) | (go_at_call 122; go_in))
    exact ⟨rfl, rfl, rfl, ⟨u, x, rfl⟩, _, rfl⟩

set_option maxHeartbeats 2000000 in
theorem tableMutate_32 (T B pos off n : Nat) (l : List UInt8) (w : World) (hT : Tab w T B l pos) (h : off + 1 ≤ l.length) (hn : n < 2 ^ 64) :
    Calls Tryz.prog 45 #[.pointer (some ⟨T, 0, none⟩), .int .u8 32, .int .u32 off, .int .u64 n] w fun e w' => e = .returned (.bool true) ∧ w.setCells B off (cellsOf (numB 32 n)) = w' := by
  have hsl := run_slice_from (P := Tryz.prog) Tryz.underlying52 sizeU8 B 0 l.length l.length .u32 off off rfl (by omega)
  rw [sOff_lt (by omega), Nat.zero_add] at hsl
  have HC := Lib.hid (fun x nq => WriteByte_ok B off (l.length - off) (l.length - off) x _ _ (w.drewN nq) (hT.drewN nq).b (by simp [cellsOf]; omega) (by omega))
  have ht := hT.t
  have hfrom := run_f32from
  have hfrom2 := run_f64from
  have hn1 : (n : Int) < 18446744073709551616 := by omega
  have hz0 : 0 ≤ (n : Int) % 256 := by omega
  have hz1 : (n : Int) % 256 < 256 := by omega
  have he : numB 32 n = _ := ((numB_lit 32 1 n (by decide) (by simp [numSize])).trans (wb_mod 1 n 256 rfl).symm)
  rw [he]
  clear he hT h
  go_enter Tryz.func45, Tryz.ntmps45
  go_wp2_with (first | (go_at_call 79; refine (HC.out _ 0 hz0 hz1).mono ?_; rintro e w' ⟨rfl, rfl⟩) | (go_at_call 123; go_in))
  go_ret
  exact ⟨rfl, rfl⟩

set_option maxHeartbeats 2000000 in
theorem tableMutate_32_dies (T B pos off n : Nat) (l : List UInt8) (w : World) (hT : Tab w T B l pos) (h : l.length < off + 1) (hn : n < 2 ^ 64) :
    Calls Tryz.prog 45 #[.pointer (some ⟨T, 0, none⟩), .int .u8 32, .int .u32 off, .int .u64 n] w (Dies w) := by
  have ht := hT.t
  have hfrom := run_f32from
  have hfrom2 := run_f64from
  have hn1 : (n : Int) < 18446744073709551616 := by omega
  have hz0 : 0 ≤ (n : Int) % 256 := by omega
  have hz1 : (n : Int) % 256 < 256 := by omega
  by_cases h1 : off ≤ l.length
  · have hsl := run_slice_from (P := Tryz.prog) Tryz.underlying52 sizeU8 B 0 l.length l.length .u32 off off rfl h1
    have HC := Lib.hid (fun x nq => WriteByte_dies (some ⟨B, sOff 0 off l.length, none⟩) (l.length - off) (l.length - off) x (w.drewN nq) (by simp) (by omega))
    clear hT h h1
    go_enter Tryz.func45, Tryz.ntmps45
    go_wp2_with (first | (go_at_call 79; refine (HC.out _ 0 hz0 hz1).mono ?_; rintro e w' ⟨⟨u, x, rfl⟩, m, rfl⟩) | (go_at_call 123; go_in))
    exact ⟨rfl, rfl, ⟨u, x, rfl⟩, m, rfl⟩
  · obtain ⟨u, x, m, hsl⟩ := run_slice_from_out (P := Tryz.prog) Tryz.underlying52 (some ⟨B, 0, none⟩) l.length l.length .u32 off (.inr (by omega)) w
    clear hT h h1
    go_enter Tryz.func45, Tryz.ntmps45
    go_wp2_with (first | (go_at_call 79; refine (HC.out _ 0 hz0 hz1).mono ?_; rintro e w' ⟨⟨u, x, rfl⟩, m, rfl⟩) | (go_at_call 123; go_in))
    exact ⟨rfl, rfl, ⟨u, x, rfl⟩, m, rfl⟩

set_option maxHeartbeats 2000000 in
theorem tableMutateSlot_32_none (T B pos slot n : Nat) (l : List UInt8) (w : World) (hT : Tab w T B l pos) (hs : slot < 65536) (hn : n < 2 ^ 64) (h : mOffset l pos slot = some 0) :
    Calls Tryz.prog 46 #[.pointer (some ⟨T, 0, none⟩), .int .u8 32, .int .u16 slot, .int .u64 n] w fun e w' => e = .returned (.bool false) ∧ ∃ m, w' = w.drewN m := by
  have HO := Lib.hid (Offset_ok T B pos slot 0 l w hT hs h)
  have hfrom := run_f32from
  have hfrom2 := run_f64from
  have hn1 : (n : Int) < 18446744073709551616 := by omega
  clear hT h hs
  go_enter Tryz.func46, Tryz.ntmps46
  go_wp2_with (first | (go_at_call 79; fail) | (go_at_call 138; go_in) | (go_at_call 36; refine HO.out.mono ?_; rintro e w' ⟨rfl, nq, rfl⟩) | (go_at_call 123; go_in))
  go_ret
  exact ⟨rfl, _, rfl⟩

set_option maxHeartbeats 2000000 in
theorem tableMutateSlot_32_dies (T B pos slot n : Nat) (l : List UInt8) (w : World) (hT : Tab w T B l pos) (hs : slot < 65536) (hn : n < 2 ^ 64) (h : mOffset l pos slot = none) :
    Calls Tryz.prog 46 #[.pointer (some ⟨T, 0, none⟩), .int .u8 32, .int .u16 slot, .int .u64 n] w (Dies w) := by
  have HO := Lib.hid (Offset_dies T B pos slot l w hT hs h)
  have hfrom := run_f32from
  have hfrom2 := run_f64from
  have hn1 : (n : Int) < 18446744073709551616 := by omega
  clear hT h hs
  go_enter Tryz.func46, Tryz.ntmps46
  go_wp2_with (first | (go_at_call 79; fail) | (go_at_call 138; go_in) | (go_at_call 36; refine HO.out.mono ?_; rintro e w' ⟨⟨u, x, rfl⟩, m, rfl⟩) | (go_at_call 123; go_in))
  exact ⟨rfl, rfl, ⟨u, x, rfl⟩, m, rfl⟩

set_option maxHeartbeats 2000000 in
theorem tableMutateSlot_32_ok (T B pos slot n o : Nat) (l : List UInt8) (w : World) (hT : Tab w T B l pos) (hs : slot < 65536) (hn : n < 2 ^ 64) (h : mOffset l pos slot = some o) (ho : o ≠ 0) (hg : w32 (pos + o) + 1 ≤ l.length) :
    Calls Tryz.prog 46 #[.pointer (some ⟨T, 0, none⟩), .int .u8 32, .int .u16 slot, .int .u64 n] w fun e w' => e = .returned (.bool true) ∧ ∃ m, (w.drewN m).setCells B (w32 (pos + o)) (cellsOf (numB 32 n)) = w' := by
  have HO := Lib.hid (Offset_ok T B pos slot o l w hT hs h)
  have hob : ((o : Int) != 0) = true := by simp; omega
  have ho1 := mOffset_lt h
  have hsl := run_slice_from (P := Tryz.prog) Tryz.underlying52 sizeU8 B 0 l.length l.length .u32 (((pos : Int) + o) % 4294967296) (w32 (pos + o)) (by unfold w32; omega) (by omega)
  rw [sOff_lt (by omega), Nat.zero_add] at hsl
  have HC := Lib.hid (fun x nq => WriteByte_ok B (w32 (pos + o)) (l.length - w32 (pos + o)) (l.length - w32 (pos + o)) x _ _ (w.drewN nq) (hT.drewN nq).b (by simp [cellsOf]; omega) (by omega))
  have ht := hT.t
  have hp := hT.p
  have hfrom := run_f32from
  have hfrom2 := run_f64from
  have hn1 : (n : Int) < 18446744073709551616 := by omega
  have hp1 := hT.hp
  have hz0 : 0 ≤ (n : Int) % 256 := by omega
  have hz1 : (n : Int) % 256 < 256 := by omega
  have he : numB 32 n = _ := ((numB_lit 32 1 n (by decide) (by simp [numSize])).trans (wb_mod 1 n 256 rfl).symm)
  rw [he]
  clear he hT h hs hg ho
  generalize w32 (pos + o) = q at *
  go_enter Tryz.func46, Tryz.ntmps46
  go_wp2_with (first | (go_at_call 79; refine (HC.out _ _ hz0 hz1).mono ?_; rintro e w' ⟨rfl, rfl⟩) | (go_at_call 138; go_in) | (go_at_call 36; refine HO.out.mono ?_; rintro e w' ⟨rfl, nq, rfl⟩) | (go_at_call 123; go_in))
  go_ret
  exact ⟨rfl, _, rfl⟩

set_option maxHeartbeats 2000000 in
theorem tableMutateSlot_32_out (T B pos slot n o : Nat) (l : List UInt8) (w : World) (hT : Tab w T B l pos) (hs : slot < 65536) (hn : n < 2 ^ 64) (h : mOffset l pos slot = some o) (ho : o ≠ 0) (hg : l.length < w32 (pos + o) + 1) :
    Calls Tryz.prog 46 #[.pointer (some ⟨T, 0, none⟩), .int .u8 32, .int .u16 slot, .int .u64 n] w (Dies w) := by
  have HO := Lib.hid (Offset_ok T B pos slot o l w hT hs h)
  have hob : ((o : Int) != 0) = true := by simp; omega
  have ho1 := mOffset_lt h
  have ht := hT.t
  have hp := hT.p
  have hp1 := hT.hp
  have hfrom := run_f32from
  have hfrom2 := run_f64from
  have hn1 : (n : Int) < 18446744073709551616 := by omega
  have hz0 : 0 ≤ (n : Int) % 256 := by omega
  have hz1 : (n : Int) % 256 < 256 := by omega
  by_cases h1 : w32 (pos + o) ≤ l.length
  · have hsl := run_slice_from (P := Tryz.prog) Tryz.underlying52 sizeU8 B 0 l.length l.length .u32 (((pos : Int) + o) % 4294967296) (w32 (pos + o)) (by unfold w32; omega) h1
    have HC := Lib.hid (fun x nq => WriteByte_dies (some ⟨B, sOff 0 (w32 (pos + o)) l.length, none⟩) (l.length - w32 (pos + o)) (l.length - w32 (pos + o)) x (w.drewN nq) (by simp) (by omega))
    clear hT h hs hg h1 ho
    generalize w32 (pos + o) = q at *
    go_enter Tryz.func46, Tryz.ntmps46
    go_wp2_with (first | (go_at_call 79; refine (HC.out _ _ hz0 hz1).mono ?_; rintro e w' ⟨⟨u, x, rfl⟩, m, rfl⟩) | (go_at_call 138; go_in) | (go_at_call 36; refine HO.out.mono ?_; rintro e w' ⟨rfl, nq, rfl⟩) | (go_at_call 123; go_in))
    exact ⟨rfl, rfl, rfl, ⟨u, x, rfl⟩, _, rfl⟩
  · have hsl := fun w => run_slice_from_out (P := Tryz.prog) Tryz.underlying52 (some ⟨B, 0, none⟩) l.length l.length .u32 (((pos : Int) + o) % 4294967296) (.inr (by unfold w32 at h1; omega)) w
    have HS := Lib.hid hsl; clear hsl
    clear hT h hs hg h1 ho
    go_enter Tryz.func46, Tryz.ntmps46
    go_wp2_with (first | (go_at_call 79; fail) | (go_at_call 138; go_in) | (go_at_call 36; refine HO.out.mono ?_; rintro e w' ⟨rfl, nq, rfl⟩; obtain ⟨u, x, m, hsl⟩ := HS.out (w.drewN nq)) | (go_at_call 123; go_in))
    exact ⟨rfl, rfl, rfl, ⟨u, x, rfl⟩, _, rfl⟩

set_option maxHeartbeats 2000000 in
theorem tableMutate_33 (T B pos off n : Nat) (l : List UInt8) (w : World) (hT : Tab w T B l pos) (h : off + 4 ≤ l.length) (hn : n < 2 ^ 64) :
    Calls Tryz.prog 45 #[.pointer (some ⟨T, 0, none⟩), .int .u8 33, .int .u32 off, .int .u64 n] w fun e w' => e = .returned (.bool true) ∧ w.setCells B off (cellsOf (numB 33 n)) = w' := by
  have hsl := run_slice_from (P := Tryz.prog) Tryz.underlying52 sizeU8 B 0 l.length l.length .u32 off off rfl (by omega)
  rw [sOff_lt (by omega), Nat.zero_add] at hsl
  have HC := Lib.hid (fun x nq => WriteSOffsetT_ok B off (l.length - off) (l.length - off) x _ _ (w.drewN nq) (hT.drewN nq).b (by simp [cellsOf]; omega) (by omega))
  have ht := hT.t
  have hfrom := run_f32from
  have hfrom2 := run_f64from
  have hn1 : (n : Int) < 18446744073709551616 := by omega
  have he : numB 33 n = _ := ((numB_lit 33 4 n (by decide) (by simp [numSize])).trans (wb_32 n).symm)
  rw [he]
  clear he hT h
  go_enter Tryz.func45, Tryz.ntmps45
  go_wp2_with (first | (go_at_call 80; refine (HC.out _ 0).mono ?_; rintro e w' ⟨rfl, rfl⟩) | (go_at_call 124; go_in))
  go_ret
  exact ⟨rfl, rfl⟩

set_option maxHeartbeats 2000000 in
theorem tableMutate_33_dies (T B pos off n : Nat) (l : List UInt8) (w : World) (hT : Tab w T B l pos) (h : l.length < off + 4) (hn : n < 2 ^ 64) :
    Calls Tryz.prog 45 #[.pointer (some ⟨T, 0, none⟩), .int .u8 33, .int .u32 off, .int .u64 n] w (Dies w) := by
  have ht := hT.t
  have hfrom := run_f32from
  have hfrom2 := run_f64from
  have hn1 : (n : Int) < 18446744073709551616 := by omega
  by_cases h1 : off ≤ l.length
  · have hsl := run_slice_from (P := Tryz.prog) Tryz.underlying52 sizeU8 B 0 l.length l.length .u32 off off rfl h1
    have HC := Lib.hid (fun x nq => WriteSOffsetT_dies (some ⟨B, sOff 0 off l.length, none⟩) (l.length - off) (l.length - off) x (w.drewN nq) (by simp) (by omega))
    clear hT h h1
    go_enter Tryz.func45, Tryz.ntmps45
    go_wp2_with (first | (go_at_call 80; refine (HC.out _ 0).mono ?_; rintro e w' ⟨⟨u, x, rfl⟩, m, rfl⟩) | (go_at_call 124; go_in))
    exact ⟨rfl, rfl, ⟨u, x, rfl⟩, m, rfl⟩
  · obtain ⟨u, x, m, hsl⟩ := run_slice_from_out (P := Tryz.prog) Tryz.underlying52 (some ⟨B, 0, none⟩) l.length l.length .u32 off (.inr (by omega)) w
    clear hT h h1
    go_enter Tryz.func45, Tryz.ntmps45
    go_wp2_with (first | (go_at_call 80; refine (HC.out _ 0).mono ?_; rintro e w' ⟨⟨u, x, rfl⟩, m, rfl⟩) | (go_at_call 124; go_in))
    exact ⟨rfl, rfl, ⟨u, x, rfl⟩, m, rfl⟩

set_option maxHeartbeats 2000000 in
theorem tableMutate_34 (T B pos off n : Nat) (l : List UInt8) (w : World) (hT : Tab w T B l pos) (h : off + 4 ≤ l.length) (hn : n < 2 ^ 64) :
    Calls Tryz.prog 45 #[.pointer (some ⟨T, 0, none⟩), .int .u8 34, .int .u32 off, .int .u64 n] w fun e w' => e = .returned (.bool true) ∧ w.setCells B off (cellsOf (numB 34 n)) = w' := by
  have hsl := run_slice_from (P := Tryz.prog) Tryz.underlying52 sizeU8 B 0 l.length l.length .u32 off off rfl (by omega)
  rw [sOff_lt (by omega), Nat.zero_add] at hsl
  have HC := Lib.hid (fun x nq => WriteUOffsetT_ok B off (l.length - off) (l.length - off) x _ _ (w.drewN nq) (hT.drewN nq).b (by simp [cellsOf]; omega) (by omega))
  have ht := hT.t
  have hfrom := run_f32from
  have hfrom2 := run_f64from
  have hn1 : (n : Int) < 18446744073709551616 := by omega
  have he : numB 34 n = _ := ((numB_lit 34 4 n (by decide) (by simp [numSize])).trans (wb_mod 4 n 4294967296 rfl).symm)
  rw [he]
  clear he hT h
  go_enter Tryz.func45, Tryz.ntmps45
  go_wp2_with (first | (go_at_call 81; refine (HC.out _ 0).mono ?_; rintro e w' ⟨rfl, rfl⟩) | (go_at_call 125; go_in))
  go_ret
  exact ⟨rfl, rfl⟩

set_option maxHeartbeats 2000000 in
theorem tableMutate_34_dies (T B pos off n : Nat) (l : List UInt8) (w : World) (hT : Tab w T B l pos) (h : l.length < off + 4) (hn : n < 2 ^ 64) :
    Calls Tryz.prog 45 #[.pointer (some ⟨T, 0, none⟩), .int .u8 34, .int .u32 off, .int .u64 n] w (Dies w) := by
  have ht := hT.t
  have hfrom := run_f32from
  have hfrom2 := run_f64from
  have hn1 : (n : Int) < 18446744073709551616 := by omega
  by_cases h1 : off ≤ l.length
  · have hsl := run_slice_from (P := Tryz.prog) Tryz.underlying52 sizeU8 B 0 l.length l.length .u32 off off rfl h1
    have HC := Lib.hid (fun x nq => WriteUOffsetT_dies (some ⟨B, sOff 0 off l.length, none⟩) (l.length - off) (l.length - off) x (w.drewN nq) (by simp) (by omega))
    clear hT h h1
    go_enter Tryz.func45, Tryz.ntmps45
    go_wp2_with (first | (go_at_call 81; refine (HC.out _ 0).mono ?_; rintro e w' ⟨⟨u, x, rfl⟩, m, rfl⟩) | (go_at_call 125; go_in))
    exact ⟨rfl, rfl, ⟨u, x, rfl⟩, m, rfl⟩
  · obtain ⟨u, x, m, hsl⟩ := run_slice_from_out (P := Tryz.prog) Tryz.underlying52 (some ⟨B, 0, none⟩) l.length l.length .u32 off (.inr (by omega)) w
    clear hT h h1
    go_enter Tryz.func45, Tryz.ntmps45
    go_wp2_with (first | (go_at_call 81; refine (HC.out _ 0).mono ?_; rintro e w' ⟨⟨u, x, rfl⟩, m, rfl⟩) | (go_at_call 125; go_in))
    exact ⟨rfl, rfl, ⟨u, x, rfl⟩, m, rfl⟩

set_option maxHeartbeats 2000000 in
theorem tableMutate_35 (T B pos off n : Nat) (l : List UInt8) (w : World) (hT : Tab w T B l pos) (h : off + 2 ≤ l.length) (hn : n < 2 ^ 64) :
    Calls Tryz.prog 45 #[.pointer (some ⟨T, 0, none⟩), .int .u8 35, .int .u32 off, .int .u64 n] w fun e w' => e = .returned (.bool true) ∧ w.setCells B off (cellsOf (numB 35 n)) = w' := by
  have hsl := run_slice_from (P := Tryz.prog) Tryz.underlying52 sizeU8 B 0 l.length l.length .u32 off off rfl (by omega)
  rw [sOff_lt (by omega), Nat.zero_add] at hsl
  have HC := Lib.hid (fun x nq => WriteVOffsetT_ok B off (l.length - off) (l.length - off) x _ _ (w.drewN nq) (hT.drewN nq).b (by simp [cellsOf]; omega) (by omega))
  have ht := hT.t
  have hfrom := run_f32from
  have hfrom2 := run_f64from
  have hn1 : (n : Int) < 18446744073709551616 := by omega
  have he : numB 35 n = _ := ((numB_lit 35 2 n (by decide) (by simp [numSize])).trans (wb_wrap .u16 2 n rfl).symm)
  rw [he]
  clear he hT h
  go_enter Tryz.func45, Tryz.ntmps45
  go_wp2_with (first | (go_at_call 82; refine (HC.out _ 0).mono ?_; rintro e w' ⟨rfl, rfl⟩) | (go_at_call 126; go_in))
  go_ret
  exact ⟨rfl, rfl⟩

set_option maxHeartbeats 2000000 in
theorem tableMutate_35_dies (T B pos off n : Nat) (l : List UInt8) (w : World) (hT : Tab w T B l pos) (h : l.length < off + 2) (hn : n < 2 ^ 64) :
    Calls Tryz.prog 45 #[.pointer (some ⟨T, 0, none⟩), .int .u8 35, .int .u32 off, .int .u64 n] w (Dies w) := by
  have ht := hT.t
  have hfrom := run_f32from
  have hfrom2 := run_f64from
  have hn1 : (n : Int) < 18446744073709551616 := by omega
  by_cases h1 : off ≤ l.length
  · have hsl := run_slice_from (P := Tryz.prog) Tryz.underlying52 sizeU8 B 0 l.length l.length .u32 off off rfl h1
    have HC := Lib.hid (fun x nq => WriteVOffsetT_dies (some ⟨B, sOff 0 off l.length, none⟩) (l.length - off) (l.length - off) x (w.drewN nq) (by simp) (by omega))
    clear hT h h1
    go_enter Tryz.func45, Tryz.ntmps45
    go_wp2_with (first | (go_at_call 82; refine (HC.out _ 0).mono ?_; rintro e w' ⟨⟨u, x, rfl⟩, m, rfl⟩) | (go_at_call 126; go_in))
    exact ⟨rfl, rfl, ⟨u, x, rfl⟩, m, rfl⟩
  · obtain ⟨u, x, m, hsl⟩ := run_slice_from_out (P := Tryz.prog) Tryz.underlying52 (some ⟨B, 0, none⟩) l.length l.length .u32 off (.inr (by omega)) w
    clear hT h h1
    go_enter Tryz.func45, Tryz.ntmps45
    go_wp2_with (first | (go_at_call 82; refine (HC.out _ 0).mono ?_; rintro e w' ⟨⟨u, x, rfl⟩, m, rfl⟩) | (go_at_call 126; go_in))
    exact ⟨rfl, rfl, ⟨u, x, rfl⟩, m, rfl⟩

end Go.Proofs.YtjfgippolckaeaaGreat
