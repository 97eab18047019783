/- What offsets lead to: Indirect, Vector, VectorLen, ByteVector, String, Union of a Table. -/
import Derived.Test.YtjfgippolckaeaaGreatTabOff
namespace Go.Proofs.YtjfgippolckaeaaGreat
open Go.RowKit
set_option linter.unusedVariables false
set_option linter.unusedSimpArgs false

/-- An offset at a place is read of the bytes from there on. -/
theorem uo_ok {T B pos p n : Nat} {l : List UInt8} {w : World} (hT : Tab w T B l pos) (h : mGet l 34 p = some n) (v : Int) (hv : v = p) :
    ((Instr.slice 52 (.slice (some ⟨B, 0, none⟩) l.length l.length) (some (.int .u32 v)) none none).run Tryz.prog w = .ok (.slice (some ⟨B, sOff 0 p l.length, none⟩) (l.length - p) (l.length - p)) w) ∧
    Calls Tryz.prog 47 #[.slice (some ⟨B, sOff 0 p l.length, none⟩) (l.length - p) (l.length - p)] w fun e w' => e = .returned (.int .u32 n) ∧ w = w' := by
  obtain ⟨_, h2, h3⟩ := mGet_some h
  have hz : numSize 34 = 4 := by decide
  rw [hz] at h2 h3
  refine ⟨run_slice_from (P := Tryz.prog) Tryz.underlying52 sizeU8 B 0 l.length l.length .u32 v p hv (by omega) w, ?_⟩
  rw [h3]
  exact GetUOffsetT_ok B (sOff 0 p l.length) (l.length - p) (l.length - p) (l.drop p) w (hT.m.cut (Nat.le_refl _)) (by rw [List.length_drop]) (by omega)
theorem uo_dies {B p : Nat} {l : List UInt8} (w : World) (h : mGet l 34 p = none) (v : Int) (hv : v = p) :
    (∃ u x n, (Instr.slice 52 (.slice (some ⟨B, 0, none⟩) l.length l.length) (some (.int .u32 v)) none none).run Tryz.prog w = .halt (.panic (.iface u x)) (w.drewN n)) ∨
    (((Instr.slice 52 (.slice (some ⟨B, 0, none⟩) l.length l.length) (some (.int .u32 v)) none none).run Tryz.prog w = .ok (.slice (some ⟨B, sOff 0 p l.length, none⟩) (l.length - p) (l.length - p)) w) ∧
    Calls Tryz.prog 47 #[.slice (some ⟨B, sOff 0 p l.length, none⟩) (l.length - p) (l.length - p)] w (Dies w)) := by
  have h2 := mGet_none h (by decide)
  have hz : numSize 34 = 4 := by decide
  rw [hz] at h2
  by_cases h1 : p ≤ l.length
  · exact .inr ⟨run_slice_from (P := Tryz.prog) Tryz.underlying52 sizeU8 B 0 l.length l.length .u32 v p hv h1 w, GetUOffsetT_dies (some ⟨B, sOff 0 p l.length, none⟩) (l.length - p) (l.length - p) w (by simp) (by omega)⟩
  · exact .inl (run_slice_from_out (P := Tryz.prog) Tryz.underlying52 (some ⟨B, 0, none⟩) l.length l.length .u32 v (.inr (by omega)) w)

theorem mJump_some {l : List UInt8} {p q : Nat} (h : mJump l p = some q) : ∃ n, mGet l 34 p = some n ∧ n < 4294967296 ∧ q = w32 (p + n) := by
  unfold mJump at h
  cases hg : mGet l 34 p with
  | none => rw [hg] at h; cases h
  | some n => rw [hg] at h; injection h with h; exact ⟨n, rfl, mGet_lt hg, h.symm⟩
theorem mJump_none {l : List UInt8} {p : Nat} (h : mJump l p = none) : mGet l 34 p = none := by
  unfold mJump at h
  cases hg : mGet l 34 p with
  | none => rfl
  | some n => rw [hg] at h; cases h
theorem w32_add (a b : Nat) : ((a : Int) + b) % 4294967296 = (w32 (a + b) : Nat) := by unfold w32; omega
theorem w32_add4 (a : Nat) : ((a : Int) + 4) % 4294967296 = (w32 (a + 4) : Nat) := by unfold w32; omega
theorem w32_add2 (a b c : Nat) : ((a : Int) + b + c) % 4294967296 = (w32 (w32 (a + b) + c) : Nat) := by unfold w32; omega
theorem w32_start (a b : Nat) : ((a : Int) + b + 4) % 4294967296 = (w32 (w32 (a + b) + 4) : Nat) := by unfold w32; omega
theorem w32_stop (a b c : Nat) : ((a : Int) + b + 4 + c) % 4294967296 = (w32 (w32 (w32 (a + b) + 4) + c) : Nat) := by unfold w32; omega
theorem w32_lt (a : Nat) : w32 a < 4294967296 := by unfold w32; omega

theorem Indirect_ok (T B pos off q : Nat) (l : List UInt8) (w : World) (hT : Tab w T B l pos) (h : mJump l off = some q) :
    Calls Tryz.prog 39 #[.pointer (some ⟨T, 0, none⟩), .int .u32 off] w fun e w' => e = .returned (.int .u32 q) ∧ w = w' := by
  obtain ⟨n, hg, hn, rfl⟩ := mJump_some h
  have hh := uo_ok hT hg off rfl
  have hsl := hh.1
  have HC := Lib.hid hh.2
  have ht := hT.t
  clear hT h hg hh
  go_enter Tryz.func39, Tryz.ntmps39
  go_wp2_with (go_at_call 47; refine HC.out.mono ?_; rintro e w' ⟨rfl, rfl⟩)
  go_ret
  exact ⟨ret_int (w32_add _ _), rfl⟩
theorem Indirect_dies (T B pos off : Nat) (l : List UInt8) (w : World) (hT : Tab w T B l pos) (h : mJump l off = none) :
    Calls Tryz.prog 39 #[.pointer (some ⟨T, 0, none⟩), .int .u32 off] w (Dies w) := by
  have ht := hT.t
  rcases uo_dies (B := B) w (mJump_none h) off rfl with ⟨u, x, n, hsl⟩ | ⟨hsl, HC⟩
  · clear hT h
    go_enter Tryz.func39, Tryz.ntmps39
    go_wp2_with fail
    exact ⟨rfl, ⟨u, x, rfl⟩, n, rfl⟩
  · have HC := Lib.hid HC
    clear hT h
    go_enter Tryz.func39, Tryz.ntmps39
    go_wp2_with (go_at_call 47; refine HC.out.mono ?_; rintro e w' ⟨⟨u, x, rfl⟩, n, rfl⟩)
    exact ⟨rfl, ⟨u, x, rfl⟩, n, rfl⟩

theorem Vector_ok (T B pos off q : Nat) (l : List UInt8) (w : World) (hT : Tab w T B l pos) (h : mJump l (w32 (off + pos)) = some q) :
    Calls Tryz.prog 42 #[.pointer (some ⟨T, 0, none⟩), .int .u32 off] w fun e w' => e = .returned (.int .u32 (w32 (q + 4))) ∧ w = w' := by
  obtain ⟨n, hg, hn, rfl⟩ := mJump_some h
  have hh := uo_ok hT hg _ (w32_add off pos)
  have hsl := hh.1
  have HC := Lib.hid hh.2
  have ht := hT.t
  have hp := hT.p
  clear hT h hg hh
  go_enter Tryz.func42, Tryz.ntmps42
  go_wp2_with (go_at_call 47; refine HC.out.mono ?_; rintro e w' ⟨rfl, rfl⟩)
  go_ret
  exact ⟨ret_int (by rw [w32_add2, w32_add4]), rfl⟩
theorem Vector_dies (T B pos off : Nat) (l : List UInt8) (w : World) (hT : Tab w T B l pos) (h : mJump l (w32 (off + pos)) = none) :
    Calls Tryz.prog 42 #[.pointer (some ⟨T, 0, none⟩), .int .u32 off] w (Dies w) := by
  have ht := hT.t
  have hp := hT.p
  rcases uo_dies (B := B) w (mJump_none h) _ (w32_add off pos) with ⟨u, x, n, hsl⟩ | ⟨hsl, HC⟩
  · clear hT h
    go_enter Tryz.func42, Tryz.ntmps42
    go_wp2_with fail
    exact ⟨rfl, ⟨u, x, rfl⟩, n, rfl⟩
  · have HC := Lib.hid HC
    clear hT h
    go_enter Tryz.func42, Tryz.ntmps42
    go_wp2_with (go_at_call 47; refine HC.out.mono ?_; rintro e w' ⟨⟨u, x, rfl⟩, n, rfl⟩)
    exact ⟨rfl, ⟨u, x, rfl⟩, n, rfl⟩

theorem VectorLen_ok (T B pos off q m : Nat) (l : List UInt8) (w : World) (hT : Tab w T B l pos) (h : mJump l (w32 (off + pos)) = some q) (hm : mGet l 34 q = some m) :
    Calls Tryz.prog 43 #[.pointer (some ⟨T, 0, none⟩), .int .u32 off] w fun e w' => e = .returned (.int .i64 m) ∧ w = w' := by
  obtain ⟨n, hg, hn, rfl⟩ := mJump_some h
  have hh := uo_ok hT hg _ (w32_add off pos)
  have hsl := hh.1
  have HC := Lib.hid hh.2
  have hh2 := uo_ok hT hm (((off : Int) + pos + n) % 4294967296) (w32_add2 _ _ _)
  have hsl2 := hh2.1
  have HC2 := Lib.hid hh2.2
  have ht := hT.t
  have hp := hT.p
  have hml := mGet_lt hm
  have hz : numSize 34 = 4 := by decide
  rw [hz] at hml
  clear hT h hg hh hh2 hm hz
  generalize w32 (w32 (off + pos) + n) = a at *
  generalize w32 (off + pos) = b at *
  generalize sOff 0 a l.length = sa at *
  generalize sOff 0 b l.length = sb at *
  generalize l.length - a = la at *
  generalize l.length - b = lb at *
  go_enter Tryz.func43, Tryz.ntmps43
  go_wp2_with fail
  refine HC.out.mono ?_
  rintro e w' ⟨rfl, rfl⟩
  go_wp2_with fail
  refine HC2.out.mono ?_
  rintro e w' ⟨rfl, rfl⟩
  go_wp2_with fail
  go_ret
  exact ⟨ret_int rfl, rfl⟩
theorem VectorLen_dies (T B pos off : Nat) (l : List UInt8) (w : World) (hT : Tab w T B l pos) (h : mJump l (w32 (off + pos)) = none) :
    Calls Tryz.prog 43 #[.pointer (some ⟨T, 0, none⟩), .int .u32 off] w (Dies w) := by
  have ht := hT.t
  have hp := hT.p
  rcases uo_dies (B := B) w (mJump_none h) _ (w32_add off pos) with ⟨u, x, n, hsl⟩ | ⟨hsl, HC⟩
  · clear hT h
    go_enter Tryz.func43, Tryz.ntmps43
    go_wp2_with fail
    exact ⟨rfl, ⟨u, x, rfl⟩, n, rfl⟩
  · have HC := Lib.hid HC
    clear hT h
    go_enter Tryz.func43, Tryz.ntmps43
    go_wp2_with (go_at_call 47; refine HC.out.mono ?_; rintro e w' ⟨⟨u, x, rfl⟩, n, rfl⟩)
    exact ⟨rfl, ⟨u, x, rfl⟩, n, rfl⟩
theorem VectorLen_out (T B pos off q : Nat) (l : List UInt8) (w : World) (hT : Tab w T B l pos) (h : mJump l (w32 (off + pos)) = some q) (hm : mGet l 34 q = none) :
    Calls Tryz.prog 43 #[.pointer (some ⟨T, 0, none⟩), .int .u32 off] w (Dies w) := by
  obtain ⟨n, hg, hn, rfl⟩ := mJump_some h
  have hh := uo_ok hT hg _ (w32_add off pos)
  have hsl := hh.1
  have HC := Lib.hid hh.2
  have ht := hT.t
  have hp := hT.p
  rcases uo_dies (B := B) w hm (((off : Int) + pos + n) % 4294967296) (w32_add2 _ _ _) with ⟨u, x, m, hsl2⟩ | ⟨hsl2, HC2⟩
  · clear hT h hg hh hm
    generalize w32 (off + pos) = b at *
    go_enter Tryz.func43, Tryz.ntmps43
    go_wp2_with (go_at_call 47; refine HC.out.mono ?_; rintro e w' ⟨rfl, rfl⟩)
    exact ⟨rfl, ⟨u, x, rfl⟩, m, rfl⟩
  · have HC2 := Lib.hid HC2
    clear hT h hg hh hm
    generalize w32 (w32 (off + pos) + n) = a at *
    generalize w32 (off + pos) = b at *
    generalize sOff 0 a l.length = sa at *
    generalize sOff 0 b l.length = sb at *
    generalize l.length - a = la at *
    generalize l.length - b = lb at *
    go_enter Tryz.func43, Tryz.ntmps43
    go_wp2_with fail
    refine HC.out.mono ?_
    rintro e w' ⟨rfl, rfl⟩
    go_wp2_with fail
    refine HC2.out.mono ?_
    rintro e w' ⟨⟨u, x, rfl⟩, m, rfl⟩
    exact ⟨rfl, ⟨u, x, rfl⟩, m, rfl⟩

/-! ByteVector and String. -/
theorem mText_some {l : List UInt8} {p : Nat} {t : List UInt8} (h : mText l p = some t) : ∃ q n, mJump l p = some q ∧ mGet l 34 q = some n ∧ w32 (q + 4) ≤ w32 (w32 (q + 4) + n) ∧ w32 (w32 (q + 4) + n) ≤ l.length ∧ t = (l.drop (w32 (q + 4))).take (w32 (w32 (q + 4) + n) - w32 (q + 4)) := by
  unfold mText at h
  obtain ⟨q, hq, h⟩ := Option.bind_eq_some_iff.1 h
  obtain ⟨n, hn, h⟩ := Option.bind_eq_some_iff.1 h
  split at h
  · cases h
  · rename_i hx
    injection h with h
    exact ⟨q, n, hq, hn, by omega, by omega, h.symm⟩

/-- The bytes of a text, where they lie. -/
theorem ByteVector_ok (T B pos off : Nat) (t : List UInt8) (l : List UInt8) (w : World) (hT : Tab w T B l pos) (h : mText l off = some t) :
    Calls Tryz.prog 41 #[.pointer (some ⟨T, 0, none⟩), .int .u32 off] w fun e w' => (∃ o cap, e = .returned (.slice (some ⟨B, o, none⟩) t.length cap) ∧ Mem w B o t) ∧ w = w' := by
  obtain ⟨q, m, hj, hm, h1, h2, rfl⟩ := mText_some h
  obtain ⟨n, hg, hn, rfl⟩ := mJump_some hj
  have hh := uo_ok hT hg off rfl
  have hsl := hh.1
  have HC := Lib.hid hh.2
  have hh2 := uo_ok hT hm (((off : Int) + n) % 4294967296) (w32_add _ _)
  have hsl2 := hh2.1
  have HC2 := Lib.hid hh2.2
  have ht := hT.t
  have hs3 := run_slice_cut (P := Tryz.prog) Tryz.underlying52 sizeU8 B 0 l.length l.length .u32 .u32 (((off : Int) + n + 4) % 4294967296) (((off : Int) + n + 4 + m) % 4294967296) (w32 (w32 (off + n) + 4)) (w32 (w32 (w32 (off + n) + 4) + m)) (w32_start _ _) (w32_stop _ _ _) h1 h2
  have hM : Mem w B (sOff 0 (w32 (w32 (off + n) + 4)) l.length) ((l.drop (w32 (w32 (off + n) + 4))).take (w32 (w32 (w32 (off + n) + 4) + m) - w32 (w32 (off + n) + 4))) := (hT.m.cut (Nat.le_refl _)).take _
  have hL : ((l.drop (w32 (w32 (off + n) + 4))).take (w32 (w32 (w32 (off + n) + 4) + m) - w32 (w32 (off + n) + 4))).length = w32 (w32 (w32 (off + n) + 4) + m) - w32 (w32 (off + n) + 4) := by
    rw [List.length_take, List.length_drop]; omega
  rw [hL]
  have HM := Lib.hid hM
  clear hT h hg hh hh2 hm hj hL hM h1 h2
  generalize (l.drop (w32 (w32 (off + n) + 4))).take (w32 (w32 (w32 (off + n) + 4) + m) - w32 (w32 (off + n) + 4)) = t at *
  generalize w32 (w32 (w32 (off + n) + 4) + m) = c at *
  generalize w32 (w32 (off + n) + 4) = b at *
  generalize w32 (off + n) = a at *
  generalize sOff 0 a l.length = sa at *
  generalize sOff 0 off l.length = sb at *
  generalize l.length - a = la at *
  generalize l.length - off = lb at *
  go_enter Tryz.func41, Tryz.ntmps41
  go_wp2_with fail
  refine HC.out.mono ?_
  rintro e w' ⟨rfl, rfl⟩
  go_wp2_with fail
  refine HC2.out.mono ?_
  rintro e w' ⟨rfl, rfl⟩
  go_wp2_with fail
  go_ret
  exact ⟨⟨_, _, rfl, HM.out⟩, rfl⟩
theorem ByteVector_dies (T B pos off : Nat) (l : List UInt8) (w : World) (hT : Tab w T B l pos) (h : mText l off = none) :
    Calls Tryz.prog 41 #[.pointer (some ⟨T, 0, none⟩), .int .u32 off] w (Dies w) := by
  have ht := hT.t
  cases hj : mJump l off with
  | none =>
    rcases uo_dies (B := B) w (mJump_none hj) off rfl with ⟨u, x, n, hsl⟩ | ⟨hsl, HC⟩
    · clear hT h hj
      go_enter Tryz.func41, Tryz.ntmps41
      go_wp2_with fail
      exact ⟨rfl, ⟨u, x, rfl⟩, n, rfl⟩
    · have HC := Lib.hid HC
      clear hT h hj
      go_enter Tryz.func41, Tryz.ntmps41
      go_wp2_with (go_at_call 47; refine HC.out.mono ?_; rintro e w' ⟨⟨u, x, rfl⟩, n, rfl⟩)
      exact ⟨rfl, ⟨u, x, rfl⟩, n, rfl⟩
  | some q =>
    obtain ⟨n, hg, hn, rfl⟩ := mJump_some hj
    have hh := uo_ok hT hg off rfl
    have hsl := hh.1
    have HC := Lib.hid hh.2
    cases hm : mGet l 34 (w32 (off + n)) with
    | none =>
      rcases uo_dies (B := B) w hm (((off : Int) + n) % 4294967296) (w32_add _ _) with ⟨u, x, m, hsl2⟩ | ⟨hsl2, HC2⟩
      · clear hT h hg hh hm hj
        go_enter Tryz.func41, Tryz.ntmps41
        go_wp2_with (go_at_call 47; refine HC.out.mono ?_; rintro e w' ⟨rfl, rfl⟩)
        exact ⟨rfl, ⟨u, x, rfl⟩, m, rfl⟩
      · have HC2 := Lib.hid HC2
        clear hT h hg hh hm hj
        generalize w32 (off + n) = a at *
        generalize sOff 0 a l.length = sa at *
        generalize sOff 0 off l.length = sb at *
        generalize l.length - a = la at *
        generalize l.length - off = lb at *
        go_enter Tryz.func41, Tryz.ntmps41
        go_wp2_with fail
        refine HC.out.mono ?_
        rintro e w' ⟨rfl, rfl⟩
        go_wp2_with fail
        refine HC2.out.mono ?_
        rintro e w' ⟨⟨u, x, rfl⟩, m, rfl⟩
        exact ⟨rfl, ⟨u, x, rfl⟩, m, rfl⟩
    | some m =>
      have hh2 := uo_ok hT hm (((off : Int) + n) % 4294967296) (w32_add _ _)
      have hsl2 := hh2.1
      have HC2 := Lib.hid hh2.2
      have hx : w32 (w32 (w32 (off + n) + 4) + m) < w32 (w32 (off + n) + 4) ∨ l.length < w32 (w32 (w32 (off + n) + 4) + m) := by
        unfold mText at h
        rw [hj, Option.bind_some, hm, Option.bind_some] at h
        split at h
        · assumption
        · cases h
      obtain ⟨u, x, k, hs3⟩ := run_slice_cut_out (P := Tryz.prog) Tryz.underlying52 (some ⟨B, 0, none⟩) l.length l.length .u32 .u32 (((off : Int) + n + 4) % 4294967296) (((off : Int) + n + 4 + m) % 4294967296) (by
        rw [w32_start, w32_stop]; omega) w
      clear hT h hg hh hh2 hm hj hx
      generalize w32 (off + n) = a at *
      generalize sOff 0 a l.length = sa at *
      generalize sOff 0 off l.length = sb at *
      generalize l.length - a = la at *
      generalize l.length - off = lb at *
      go_enter Tryz.func41, Tryz.ntmps41
      go_wp2_with fail
      refine HC.out.mono ?_
      rintro e w' ⟨rfl, rfl⟩
      go_wp2_with fail
      refine HC2.out.mono ?_
      rintro e w' ⟨rfl, rfl⟩
      go_wp2_with fail
      exact ⟨rfl, ⟨u, x, rfl⟩, k, rfl⟩
theorem String_ok (T B pos off : Nat) (t : List UInt8) (l : List UInt8) (w : World) (hT : Tab w T B l pos) (h : mText l off = some t) :
    Calls Tryz.prog 40 #[.pointer (some ⟨T, 0, none⟩), .int .u32 off] w fun e w' => e = .returned (.string (strOf t)) ∧ w = w' := by
  have HC := Lib.hid (ByteVector_ok T B pos off t l w hT h)
  clear hT h
  go_enter Tryz.func40, Tryz.ntmps40
  go_wp2_with fail
  refine HC.out.mono ?_
  rintro e w' ⟨⟨o, cap, rfl, hM⟩, rfl⟩
  have hc := run_bytes_string (P := Tryz.prog) (src := 52) (dst := 9) hM rfl (cap := cap) Tryz.underlying52 Tryz.underlying5 Tryz.underlying9
  clear hM
  go_wp2_with (go_at_call 111; go_in)
  go_ret
  exact ⟨rfl, rfl⟩
theorem String_dies (T B pos off : Nat) (l : List UInt8) (w : World) (hT : Tab w T B l pos) (h : mText l off = none) :
    Calls Tryz.prog 40 #[.pointer (some ⟨T, 0, none⟩), .int .u32 off] w (Dies w) := by
  have HC := Lib.hid (ByteVector_dies T B pos off l w hT h)
  clear hT h
  go_enter Tryz.func40, Tryz.ntmps40
  go_wp2_with (go_at_call 41; refine HC.out.mono ?_; rintro e w' ⟨⟨u, x, rfl⟩, n, rfl⟩)
  exact ⟨rfl, ⟨u, x, rfl⟩, n, rfl⟩

/-! Union: into a second Table, a block of its own. -/
theorem Union_ok (T U B pos off q : Nat) (a b : Value) (l : List UInt8) (w : World) (hT : Tab w T B l pos) (hU : w.heap[U]? = some (.cells #[a, b] 76)) (hTU : T ≠ U) (h : mJump l (w32 (off + pos)) = some q) :
    Calls Tryz.prog 44 #[.pointer (some ⟨T, 0, none⟩), .pointer (some ⟨U, 0, none⟩), .int .u32 off] w fun e w' => e = .returned (.tuple #[]) ∧
      (w.setCell ⟨U, 1, none⟩ (.int .u32 q)).setCell ⟨U, 0, none⟩ (.slice (some ⟨B, 0, none⟩) l.length l.length) = w' := by
  obtain ⟨n, hg, hn, rfl⟩ := mJump_some h
  have hh := uo_ok hT hg _ (w32_add off pos)
  have hsl := hh.1
  have HC := Lib.hid hh.2
  have ht := hT.t
  have hp := hT.p
  have u0 : w.cell? ⟨U, 0, none⟩ = some a := by rw [cell_of hU]; rfl
  have u1 : w.cell? ⟨U, 1, none⟩ = some b := by rw [cell_of hU]; rfl
  have f0 := frozen_of hU 0
  have f1 := frozen_of hU 1
  have hw := w32_add2 off pos n
  rw [← hw]
  clear hT h hg hh hU hw
  go_enter Tryz.func44, Tryz.ntmps44
  go_wp2_with (first | (go_at_call 47; refine HC.out.mono ?_; rintro e w' ⟨rfl, rfl⟩) | (go_at_call 110; go_in))
  go_end0
  exact ⟨rfl, rfl⟩
theorem Union_dies (T U B pos off : Nat) (l : List UInt8) (w : World) (hT : Tab w T B l pos) (h : mJump l (w32 (off + pos)) = none) :
    Calls Tryz.prog 44 #[.pointer (some ⟨T, 0, none⟩), .pointer (some ⟨U, 0, none⟩), .int .u32 off] w (Dies w) := by
  have ht := hT.t
  have hp := hT.p
  rcases uo_dies (B := B) w (mJump_none h) _ (w32_add off pos) with ⟨u, x, n, hsl⟩ | ⟨hsl, HC⟩
  · clear hT h
    go_enter Tryz.func44, Tryz.ntmps44
    go_wp2_with (go_at_call 110; go_in)
    exact ⟨rfl, rfl, ⟨u, x, rfl⟩, n, rfl⟩
  · have HC := Lib.hid HC
    clear hT h
    go_enter Tryz.func44, Tryz.ntmps44
    go_wp2_with (first | (go_at_call 47; refine HC.out.mono ?_; rintro e w' ⟨⟨u, x, rfl⟩, n, rfl⟩) | (go_at_call 110; go_in))
    exact ⟨rfl, rfl, ⟨u, x, rfl⟩, n, rfl⟩
end Go.Proofs.YtjfgippolckaeaaGreat
