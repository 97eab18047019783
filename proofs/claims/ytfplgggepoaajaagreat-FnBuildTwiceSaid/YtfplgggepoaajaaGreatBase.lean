/- Plain words on bytes and numbers, without a program: the number that some bytes make, the bytes of a number, and how Go's bit operations spell them. -/
import Derived.WalkKit
import Derived.WalkLawsBesides
import Derived.WalkSpells
namespace Go.Proofs.YtfplgggepoaajaaGreat
open Go.RowKit

/-- The number that bytes make, the low one first. -/
def le : List UInt8 → Nat
  | [] => 0
  | x :: r => x.toNat + 256 * le r

theorem le_lt (l : List UInt8) : le l < 2 ^ (8 * l.length) := by
  induction l with
  | nil => simp [le]
  | cons x r ih =>
    have := x.toNat_lt
    have e : 2 ^ (8 * (x :: r).length) = 256 * 2 ^ (8 * r.length) := by
      rw [List.length_cons, Nat.mul_add, Nat.pow_add]; omega
    rw [e, le]
    omega

theorem le_snoc (l : List UInt8) (x : UInt8) : le (l ++ [x]) = le l + 2 ^ (8 * l.length) * x.toNat := by
  induction l with
  | nil => simp [le]
  | cons y r ih =>
    have e : 2 ^ (8 * (y :: r).length) = 256 * 2 ^ (8 * r.length) := by
      rw [List.length_cons, Nat.mul_add, Nat.pow_add]; omega
    rw [List.cons_append, le, ih, e, le, Nat.mul_add, Nat.mul_assoc, Nat.add_assoc]

/-- The lowest bytes of a number, the low one first. -/
def leB : Nat → Nat → List UInt8
  | 0, _ => []
  | k + 1, n => UInt8.ofNat n :: leB k (n / 256)

theorem leB_length (k n : Nat) : (leB k n).length = k := by
  induction k generalizing n with
  | zero => rfl
  | succ k ih => simp [leB, ih]

theorem le_leB (k n : Nat) : le (leB k n) = n % 2 ^ (8 * k) := by
  induction k generalizing n with
  | zero => simp [leB, le, Nat.mod_one]
  | succ k ih =>
    have e : 2 ^ (8 * (k + 1)) = 256 * 2 ^ (8 * k) := by rw [Nat.mul_add, Nat.pow_add]; omega
    rw [leB, le, ih, e, Nat.mod_mul]
    simp

theorem leB_le (l : List UInt8) : leB l.length (le l) = l := by
  induction l with
  | nil => rfl
  | cons x r ih =>
    have h : (x.toNat + 256 * le r) / 256 = le r := by have := x.toNat_lt; omega
    rw [List.length_cons, leB, le, h, ih]
    congr 1
    apply UInt8.toNat_inj.1
    simp

theorem leB_get (k n i : Nat) (h : i < k) : (leB k n)[i]? = some (UInt8.ofNat (n / 256 ^ i)) := by
  induction k generalizing n i with
  | zero => omega
  | succ k ih =>
    cases i with
    | zero => simp [leB]
    | succ i =>
      rw [leB, List.getElem?_cons_succ, ih _ _ (by omega), Nat.div_div_eq_div_mul, Nat.pow_succ, Nat.mul_comm]

/-- How many bytes a number of a kind has; 0 for none. -/
def numSize (k : Int) : Nat :=
  if k = 0 ∨ k = 1 ∨ k = 2 ∨ k = 32 then 1
  else if k = 3 ∨ k = 4 ∨ k = 35 then 2
  else if k = 5 ∨ k = 6 ∨ k = 9 ∨ k = 33 ∨ k = 34 then 4
  else if k = 7 ∨ k = 8 ∨ k = 10 then 8
  else 0

theorem numSize_le (k : Int) : numSize k ≤ 8 := by
  unfold numSize; split <;> (try split) <;> (try split) <;> (try split) <;> omega

/-- The number of a kind at a place of bytes, and how the reading ends: 0 well, 1 outside, 2 a bool that is neither 0 nor 1. -/
def numAt (l : List UInt8) (k : Int) (p : Nat) : Nat × Nat :=
  if numSize k = 0 ∨ l.length < p + numSize k then (0, 1)
  else if k = 0 ∧ 1 < le ((l.drop p).take (numSize k)) then (0, 2)
  else (le ((l.drop p).take (numSize k)), 0)

/-- What is written of a number of a kind. -/
def numB (k : Int) (n : Nat) : List UInt8 := leB (numSize k) (if k = 0 ∧ n ≠ 0 then 1 else n)

theorem numB_length (k : Int) (n : Nat) : (numB k n).length = numSize k := leB_length _ _

/-- What is read of a number's bits: a bool is 1 or 0. -/
def numVal (k : Int) (n : Nat) : Nat := if k = 0 then (if n = 1 then 1 else 0) else n
theorem numVal_small (k : Int) (n : Nat) (h : ¬ (k = 0 ∧ 1 < n)) : numVal k n = n := by
  unfold numVal; split
  · split <;> omega
  · rfl

theorem wrap_u64_nat (z : Nat) (h : z < 2 ^ 64) : IntKind.u64.wrap (z : Int) = z := by
  simp [IntKind.wrap, IntKind.bits, IntKind.signed]; omega

/-- The next byte of a number that is put together. -/
theorem or_byte (x : Nat) (b : UInt8) (i : Nat) (hx : x < 2 ^ (8 * i)) (hi : i < 8) :
    bits .or .u64 (x : Int) (IntKind.u64.wrap ((b.toNat : Int) * 2 ^ (8 * i))) = ((x + 2 ^ (8 * i) * b.toNat : Nat) : Int) := by
  have hb := b.toNat_lt
  have h8 : 2 ^ (8 * i) * 256 ≤ 2 ^ 64 := by
    have : (2 : Nat) ^ (8 * i) * 256 = 2 ^ (8 * i + 8) := by rw [Nat.pow_add]
    rw [this]; exact Nat.pow_le_pow_right (by omega) (by omega)
  have hm : 2 ^ (8 * i) * b.toNat + 2 ^ (8 * i) ≤ 2 ^ (8 * i) * 256 := by
    rw [← Nat.mul_succ]; exact Nat.mul_le_mul_left _ (by omega)
  have hw : IntKind.u64.wrap ((b.toNat : Int) * 2 ^ (8 * i)) = ((2 ^ (8 * i) * b.toNat : Nat) : Int) := by
    have e : ((b.toNat : Int) * 2 ^ (8 * i)) = ((2 ^ (8 * i) * b.toNat : Nat) : Int) := by
      rw [Int.natCast_mul, Int.mul_comm]; simp
    rw [e]; exact wrap_u64_nat _ (by omega)
  rw [hw]
  have h := (bits_nat .u64 64 (by decide) (by intro n h0 h1; simp [IntKind.wrap, IntKind.bits, IntKind.signed]; omega) x (2 ^ (8 * i) * b.toNat) (by omega) (by omega)).2
  rw [h]
  congr 1
  rw [Nat.or_comm, ← Nat.two_pow_add_eq_or_of_lt hx, Nat.add_comm]

/-- The lowest bytes of any whole number, the low one first. -/
def leI : Nat → Int → List UInt8
  | 0, _ => []
  | k + 1, x => UInt8.ofNat (x % 256).toNat :: leI k (x / 256)
theorem leI_length (k : Nat) (x : Int) : (leI k x).length = k := by
  induction k generalizing x with
  | zero => rfl
  | succ k ih => simp [leI, ih]
theorem leI_nat (k n : Nat) : leI k (n : Int) = leB k n := by
  induction k generalizing n with
  | zero => rfl
  | succ k ih =>
    have e : (n : Int) / 256 = ((n / 256 : Nat) : Int) := by omega
    rw [leI, leB, e, ih]
    congr 1
    apply UInt8.toNat_inj.1
    simp
    omega
theorem leI_congr (k : Nat) {x y : Int} (h : x % 2 ^ (8 * k) = y % 2 ^ (8 * k)) : leI k x = leI k y := by
  induction k generalizing x y with
  | zero => rfl
  | succ k ih =>
    have e : (2 : Int) ^ (8 * (k + 1)) = 256 * 2 ^ (8 * k) := by rw [Nat.mul_add, Int.pow_add]; omega
    rw [e] at h
    rw [leI, leI]
    have hx : x % 256 = y % 256 := by
      have h1 := congrArg (fun z : Int => z % 256) h
      rw [Int.emod_emod_of_dvd _ (Int.dvd_mul_right _ _), Int.emod_emod_of_dvd _ (Int.dvd_mul_right _ _)] at h1
      exact h1
    have hq : (x / 256) % 2 ^ (8 * k) = (y / 256) % 2 ^ (8 * k) := by
      have e1 := Int.mul_ediv_add_emod x 256
      have e2 := Int.mul_ediv_add_emod y 256
      have hd : (256 * 2 ^ (8 * k) : Int) ∣ x - y := Int.dvd_of_emod_eq_zero (by rw [Int.sub_emod, h]; simp)
      have h3 : x - y = 256 * (x / 256 - y / 256) := by rw [Int.mul_sub]; omega
      rw [h3] at hd
      have h4 : (2 ^ (8 * k) : Int) ∣ (x / 256 - y / 256) := Int.dvd_of_mul_dvd_mul_left (by decide) hd
      have h5 := Int.emod_eq_zero_of_dvd h4
      exact Int.emod_eq_emod_iff_emod_sub_eq_zero.2 h5
    rw [hx, ih hq]
theorem byteI (x : Int) : ((UInt8.ofNat (x % 256).toNat).toNat : Int) = x % 256 := by
  have : (x % 256).toNat < 256 := by omega
  rw [UInt8.toNat_ofNat']
  omega

/-! How Go's 'or' and conversions put bytes together, at any kind of integers. -/
theorem wrap_emod (k : IntKind) (n : Int) : (k.wrap n) % 2 ^ k.bits = n % 2 ^ k.bits := by
  unfold IntKind.wrap
  simp only
  split
  · rw [Int.sub_emod_right, Int.emod_emod]
  · rw [Int.emod_emod]
theorem wrap_congr (k : IntKind) {m n : Int} (h : m % 2 ^ k.bits = n % 2 ^ k.bits) : k.wrap m = k.wrap n := by
  unfold IntKind.wrap; rw [h]
theorem wrap_wrap (k : IntKind) (n : Int) : k.wrap (k.wrap n) = k.wrap n := wrap_congr k (wrap_emod k n)
theorem ofInt_congr (k : IntKind) {m n : Int} (h : m % 2 ^ k.bits = n % 2 ^ k.bits) : BitVec.ofInt k.bits m = BitVec.ofInt k.bits n := by
  apply BitVec.eq_of_toNat_eq
  simp only [BitVec.toNat_ofInt]
  have e : ((2 ^ k.bits : Nat) : Int) = 2 ^ k.bits := by simp
  rw [e, h]
theorem bits_or_nat (k : IntKind) (a b : Nat) : bits .or k a b = k.wrap ((a ||| b : Nat) : Int) := by
  simp only [bits, BitVec.ofInt_natCast, BitVec.toNat_or, BitVec.toNat_ofNat]
  apply wrap_congr
  rw [← Nat.or_mod_two_pow]
  simp
theorem bits_or_wrap (k : IntKind) (x y : Int) : bits .or k x (k.wrap y) = bits .or k x y := by
  simp only [bits]; rw [ofInt_congr k (wrap_emod k y)]
theorem bits_wrap_or (k : IntKind) (x y : Int) : bits .or k (k.wrap x) y = bits .or k x y := by
  simp only [bits]; rw [ofInt_congr k (wrap_emod k x)]
/-- Bytes put together: the next one lies above all that there is. -/
theorem or_above (k : IntKind) (a b c j : Nat) (hc : c = 2 ^ j) (h : a < c) : bits .or k (k.wrap a) ((b : Int) * (c : Int)) = k.wrap ((a + b * c : Nat) : Int) := by
  subst hc
  rw [bits_wrap_or, ← Int.natCast_mul, bits_or_nat]
  congr 2
  rw [Nat.mul_comm, Nat.or_comm, ← Nat.two_pow_add_eq_or_of_lt h, Nat.add_comm]
theorem or_zero (k : IntKind) (a : Nat) : bits .or k 0 a = k.wrap (a : Int) := by
  have := bits_or_nat k 0 a
  simpa using this
theorem le2 (x0 x1 : UInt8) : le [x0, x1] = x0.toNat + x1.toNat * 256 := by simp only [le]; omega
theorem le4 (x0 x1 x2 x3 : UInt8) : le [x0, x1, x2, x3] = x0.toNat + x1.toNat * 256 + x2.toNat * 65536 + x3.toNat * 16777216 := by simp only [le]; omega
theorem le8 (x0 x1 x2 x3 x4 x5 x6 x7 : UInt8) : le [x0, x1, x2, x3, x4, x5, x6, x7] = x0.toNat + x1.toNat * 256 + x2.toNat * 65536 + x3.toNat * 16777216 + x4.toNat * 4294967296 + x5.toNat * 1099511627776 + x6.toNat * 281474976710656 + x7.toNat * 72057594037927936 := by simp only [le]; omega
theorem or2 (k : IntKind) (x0 x1 : UInt8) : bits .or k (k.wrap (x0.toNat : Int)) ((x1.toNat : Int) * 256) = k.wrap ((x0.toNat + x1.toNat * 256 : Nat) : Int) := by
  have := x0.toNat_lt
  exact or_above k x0.toNat x1.toNat 256 8 rfl (by omega)
theorem or4 (k : IntKind) (x0 x1 x2 x3 : UInt8) : bits .or k (bits .or k (bits .or k (k.wrap (x0.toNat : Int)) ((x1.toNat : Int) * 256)) ((x2.toNat : Int) * 65536)) ((x3.toNat : Int) * 16777216) = k.wrap ((le [x0, x1, x2, x3] : Nat) : Int) := by
  have := x0.toNat_lt; have := x1.toNat_lt; have := x2.toNat_lt
  have h2 := or_above k (x0.toNat + x1.toNat * 256) x2.toNat 65536 16 rfl (by omega)
  have h3 := or_above k (x0.toNat + x1.toNat * 256 + x2.toNat * 65536) x3.toNat 16777216 24 rfl (by omega)
  rw [or2]
  refine (congrArg (fun z => bits .or k z ((x3.toNat : Int) * 16777216)) h2).trans ?_
  refine h3.trans ?_
  rw [le4]
theorem or8 (k : IntKind) (x0 x1 x2 x3 x4 x5 x6 x7 : UInt8) :
    bits .or k (bits .or k (bits .or k (bits .or k (bits .or k (bits .or k (bits .or k (k.wrap (x0.toNat : Int)) ((x1.toNat : Int) * 256)) ((x2.toNat : Int) * 65536)) ((x3.toNat : Int) * 16777216)) ((x4.toNat : Int) * 4294967296)) ((x5.toNat : Int) * 1099511627776)) ((x6.toNat : Int) * 281474976710656)) ((x7.toNat : Int) * 72057594037927936) = k.wrap ((le [x0, x1, x2, x3, x4, x5, x6, x7] : Nat) : Int) := by
  have := x0.toNat_lt; have := x1.toNat_lt; have := x2.toNat_lt; have := x3.toNat_lt; have := x4.toNat_lt; have := x5.toNat_lt; have := x6.toNat_lt
  rw [or4, le4]
  refine (congrArg (fun z => bits .or k (bits .or k (bits .or k z ((x5.toNat : Int) * 1099511627776)) ((x6.toNat : Int) * 281474976710656)) ((x7.toNat : Int) * 72057594037927936)) (or_above k _ x4.toNat 4294967296 32 rfl (by omega))).trans ?_
  refine (congrArg (fun z => bits .or k (bits .or k z ((x6.toNat : Int) * 281474976710656)) ((x7.toNat : Int) * 72057594037927936)) (or_above k _ x5.toNat 1099511627776 40 rfl (by omega))).trans ?_
  refine (congrArg (fun z => bits .or k z ((x7.toNat : Int) * 72057594037927936)) (or_above k _ x6.toNat 281474976710656 48 rfl (by omega))).trans ?_
  refine (or_above k _ x7.toNat 72057594037927936 56 rfl (by omega)).trans ?_
  rw [le8]
/-- A number that lies within its kind is itself. -/
theorem wrap_small (k : IntKind) (n : Nat) (h : n < 2 ^ (k.bits - 1)) : k.wrap (n : Int) = n := by
  have hp : 2 ^ (k.bits - 1) ≤ 2 ^ k.bits := Nat.pow_le_pow_right (by omega) (by omega)
  have hi : (n : Int) < 2 ^ (k.bits - 1) := by exact_mod_cast h
  have hj : (n : Int) < 2 ^ k.bits := by exact_mod_cast Nat.lt_of_lt_of_le h hp
  unfold IntKind.wrap
  simp only
  rw [Int.emod_eq_of_lt (Int.natCast_nonneg n) hj, if_neg (by simp; omega)]

end Go.Proofs.YtfplgggepoaajaaGreat
