/-
  Plain facts on the leading bits of a word of 64. No Go text here.
-/
import Derived.Test.Qxb6613954aBase
import Derived.Laws.BitsAllLaws
namespace Go.Proofs.Qxb6613954a.Bits
open Go.RowKit Go.Proofs.Qxb6613954a.Base

/-- X with its last q bits cleared. -/
def preN (X q : Nat) : Nat := X / 2 ^ q * 2 ^ q

theorem pre_nat (X : Nat) (n : Int) : pre (X : Int) n = (preN X (64 - n).toNat : Int) := by
  simp [pre, preN]

theorem preN_div (X p s : Nat) (h : p ≤ s) : preN X p / 2 ^ s = X / 2 ^ s := by
  obtain ⟨d, rfl⟩ : ∃ d, s = p + d := ⟨s - p, by omega⟩
  unfold preN
  rw [Nat.pow_add, ← Nat.div_div_eq_div_mul, Nat.mul_div_cancel _ (Nat.two_pow_pos p), Nat.div_div_eq_div_mul]

theorem preN_preN (X p q : Nat) (h : p ≤ q) : preN (preN X p) q = preN X q := by
  show preN X p / 2 ^ q * 2 ^ q = X / 2 ^ q * 2 ^ q
  rw [preN_div X p q h]

theorem preN_low (X p s : Nat) (h : s < p) : preN X p / 2 ^ s % 2 = 0 := by
  obtain ⟨d, rfl⟩ : ∃ d, p = s + 1 + d := ⟨p - s - 1, by omega⟩
  unfold preN
  rw [show 2 ^ (s + 1 + d) = 2 ^ d * 2 * 2 ^ s by rw [Nat.pow_add, Nat.pow_succ]; rw [Nat.mul_comm (2 ^ s) 2, Nat.mul_comm (2 * 2 ^ s), Nat.mul_assoc], ← Nat.mul_assoc, Nat.mul_div_cancel _ (Nat.two_pow_pos s), ← Nat.mul_assoc]
  omega

theorem preN_le (X q : Nat) : preN X q ≤ X := Nat.div_mul_le_self X (2 ^ q)

theorem preN_testBit (X q i : Nat) : (preN X q).testBit i = (decide (q ≤ i) && X.testBit i) := by
  unfold preN
  rw [← Nat.shiftRight_eq_div_pow, ← Nat.shiftLeft_eq, Nat.testBit_shiftLeft, Nat.testBit_shiftRight]
  by_cases h : q ≤ i
  · simp [h]
  · simp [h]

theorem preN_andNot (X q : Nat) (hX : X < 18446744073709551616) (hq : q < 64) : preN X q &&& (18446744073709551615 - 2 ^ q) = preN X (q + 1) := by
  refine Nat.eq_of_testBit_eq fun i => ?_
  have hp : 2 ^ q < 2 ^ 64 := Nat.pow_lt_pow_right (by decide) hq
  have e : 18446744073709551615 - 2 ^ q = 2 ^ 64 - (2 ^ q + 1) := by omega
  rw [e, Nat.testBit_and, preN_testBit, preN_testBit, Nat.testBit_two_pow_sub_succ hp, Nat.testBit_two_pow]
  by_cases hi : i < 64
  · by_cases h1 : q + 1 ≤ i
    · have h2 : q ≤ i := by omega
      have h3 : q ≠ i := by omega
      simp [h1, h2, h3, hi]
    · by_cases h2 : q = i
      · subst h2; simp [show ¬ q + 1 ≤ q by omega]
      · have h3 : ¬ q ≤ i := by omega
        simp [h1, h3]
  · have hb : X.testBit i = false := Nat.testBit_lt_two_pow (Nat.lt_of_lt_of_le hX (Nat.pow_le_pow_right (n := 2) (by decide) (by omega : 64 ≤ i)))
    simp [hb]

theorem preN_whole (X n : Nat) (hn : n ≤ 64) (h : X * 2 ^ n % 2 ^ 64 = 0) : preN X (64 - n) = X := by
  have h1 : 2 ^ 64 ∣ X * 2 ^ n := Nat.dvd_of_mod_eq_zero h
  have h2 : 2 ^ 64 = 2 ^ (64 - n) * 2 ^ n := by rw [← Nat.pow_add]; congr 1; omega
  rw [h2] at h1
  have h3 : 2 ^ (64 - n) ∣ X := Nat.dvd_of_mul_dvd_mul_right (Nat.two_pow_pos n) h1
  exact Nat.div_mul_cancel h3

/-! The same in the walk's spelling. -/

theorem whole (x n : Int) (hx0 : 0 ≤ x) (h0 : 0 ≤ n) (h1 : n ≤ 64) (hs : (IntKind.u64.wrap (x * 2 ^ n.toNat) != 0) = false) : pre x n = x := by
  obtain ⟨X, rfl⟩ : ∃ X : Nat, x = X := ⟨x.toNat, by omega⟩
  obtain ⟨N, rfl⟩ : ∃ N : Nat, n = N := ⟨n.toNat, by omega⟩
  have e : IntKind.u64.wrap ((X : Int) * 2 ^ (N : Int).toNat) = ((X * 2 ^ N % 2 ^ 64 : Nat) : Int) := by
    simp [IntKind.wrap, IntKind.signed, IntKind.bits]
  rw [e] at hs
  have hz : X * 2 ^ N % 2 ^ 64 = 0 := by
    have : ((X * 2 ^ N % 2 ^ 64 : Nat) : Int) = 0 := by simpa using hs
    omega
  rw [pre_nat, show (64 - (N : Int)).toNat = 64 - N by omega, preN_whole X N (by omega) hz]

theorem nested (x a b : Int) (hx0 : 0 ≤ x) (h : b ≤ a) : pre (pre x a) b = pre x b := by
  obtain ⟨X, rfl⟩ : ∃ X : Nat, x = X := ⟨x.toNat, by omega⟩
  rw [pre_nat, pre_nat, pre_nat, preN_preN X _ _ (by omega)]

theorem root (x : Int) (hx0 : 0 ≤ x) (hx1 : x ≤ 18446744073709551615) : pre x 0 = 0 := by
  obtain ⟨X, rfl⟩ : ∃ X : Nat, x = X := ⟨x.toNat, by omega⟩
  rw [pre_nat, show (64 - (0 : Int)).toNat = 64 by decide, preN, Nat.div_eq_of_lt (by omega)]
  simp

theorem parent (x c : Int) (hx0 : 0 ≤ x) (hx1 : x ≤ 18446744073709551615) (h0 : 1 ≤ c) (h1 : c ≤ 64) : bits .andNot .u64 (pre x c) (2 ^ (64 - c).toNat) = pre x (c - 1) := by
  obtain ⟨X, rfl⟩ : ∃ X : Nat, x = X := ⟨x.toNat, by omega⟩
  obtain ⟨q, hq⟩ : ∃ q, (64 - c).toNat = q := ⟨_, rfl⟩
  have hp : 2 ^ q < 2 ^ 64 := Nat.pow_lt_pow_right (by decide) (by omega)
  rw [pre_nat, pre_nat, hq, show (64 - (c - 1)).toNat = q + 1 by omega, ← preN_andNot X q (by omega) (by omega)]
  have hle := preN_le X q
  have := u64_andNot_nat (preN X q) (2 ^ q) (by omega) (by omega)
  rw [← this]
  simp

theorem wrap_pow (q : Nat) (hq : q < 64) : IntKind.u64.wrap (2 ^ q) = 2 ^ q := by
  have hp : 2 ^ q < 2 ^ 64 := Nat.pow_lt_pow_right (by decide) hq
  have e : (2 : Int) ^ q = ((2 ^ q : Nat) : Int) := by simp
  rw [e]
  exact wrap_id _ (Int.natCast_nonneg _) (by have : ((2 ^ q : Nat) : Int) < ((2 ^ 64 : Nat) : Int) := Int.ofNat_lt.2 hp; have e2 : ((2 ^ 64 : Nat) : Int) = 18446744073709551616 := by decide
                                             rw [e2] at this; exact Int.le_of_lt_add_one this)

theorem parent_walk (x c : Int) (hx0 : 0 ≤ x) (hx1 : x ≤ 18446744073709551615) (h0 : 1 ≤ c) (h1 : c ≤ 64) : bits .andNot .u64 (pre x c) (IntKind.u64.wrap (2 ^ (64 - c).toNat)) = pre x (c - 1) := by
  rw [wrap_pow _ (by omega)]; exact parent x c hx0 hx1 h0 h1

theorem u64_bounds {x : Int} (h : (Lit.int .u64 x).wf = true) : 0 ≤ x ∧ x ≤ 18446744073709551615 := by
  simp [Lit.wf, IntKind.min, IntKind.max, IntKind.signed, IntKind.bits] at h; omega

/-- Bit i of what is kept (the test as the walk spells it). -/
theorem and_one (X : Nat) (hX : X < 18446744073709551616) : bits .and .u64 (X : Int) 1 = ((X % 2 : Nat) : Int) := by
  have := bits_and_u64_nat X 1 hX (by decide)
  rw [Nat.and_one_is_mod] at this
  exact this

theorem bit_same (x a : Int) (s : Nat) (hx0 : 0 ≤ x) (h : (64 - a).toNat ≤ s) : pre x a / 2 ^ s = x / 2 ^ s := by
  obtain ⟨X, rfl⟩ : ∃ X : Nat, x = X := ⟨x.toNat, by omega⟩
  rw [pre_nat]
  have e : (2 : Int) ^ s = ((2 ^ s : Nat) : Int) := by simp
  rw [e, ← Int.natCast_ediv, ← Int.natCast_ediv, preN_div X (64 - a).toNat s h]

theorem bit_zero (x a : Int) (s : Nat) (hx0 : 0 ≤ x) (hx1 : x ≤ 18446744073709551615) (h : s < (64 - a).toNat) : bits .and .u64 (pre x a / 2 ^ s) 1 = 0 := by
  obtain ⟨X, rfl⟩ : ∃ X : Nat, x = X := ⟨x.toNat, by omega⟩
  rw [pre_nat]
  have h1 := preN_low X (64 - a).toNat s h
  have h2 := preN_le X (64 - a).toNat
  have h3 : preN X (64 - a).toNat / 2 ^ s < 18446744073709551616 := Nat.lt_of_le_of_lt (Nat.div_le_self _ _) (by omega)
  have h4 := and_one _ h3
  rw [h1, Int.natCast_ediv] at h4
  have e : (2 : Int) ^ s = ((2 ^ s : Nat) : Int) := by simp
  rw [e, h4]; rfl

end Go.Proofs.Qxb6613954a.Bits
