/- The bits that a big float is told in. -/
import Derived.Test.YtnheiigdgklbcaaFC
import Derived.Deep.RegionHeld3
import Derived.Laws.BitsAllLaws
namespace Go.Proofs.Ytnheiigdgklbcaa
open Go.ChangeShapes Go.WideShapes Go.ChangeAt Go.RowKit
set_option linter.unusedVariables false
theorem Rw.below {w w' : World} {g cap n X : Nat} (h : Rw w g cap n X) (hb : Kept w w') : Rw w' g cap n X := by
  obtain ⟨f, ⟨cur, hg, hr⟩, hf⟩ := h
  exact ⟨f, ⟨cur, (hb.block g (Array.getElem?_eq_some_iff.1 hg).1).trans hg, hr⟩, hf⟩
theorem stk_one (X i : Nat) : stk X i = 1 ↔ X % 2 ^ i ≠ 0 := by
  unfold stk
  split <;> simp [*]
/-- the rounding by the highest word is the rounding of the number -/
theorem rnd_word (N n s W : Nat) (hs : s < 64) (hn : n = blen N) (hsum : 64 * W + 64 = n + s) (h64 : 54 ≤ n) :
    Num.dg Num.B64 (N * 2 ^ s) W / 2048 + (if Num.dg Num.B64 (N * 2 ^ s) W / 1024 % 2 = 1 ∧ (stk (N * 2 ^ s) (64 * W + 10) = 1 ∨ Num.dg Num.B64 (N * 2 ^ s) W / 2048 % 2 = 1) then 1 else 0) = rnd N (n - 53) ∧
      9223372036854775808 ≤ Num.dg Num.B64 (N * 2 ^ s) W := by
  have h0 : N ≠ 0 := by
    rintro rfl
    have : blen 0 = 0 := by simp [blen]
    omega
  have hN1 : N < 2 ^ n := lt_blen (by omega)
  have hN2 : 2 ^ (n - 1) ≤ N := by
    have : blen N = N.log2 + 1 := by unfold blen; rw [if_neg h0]
    exact (Nat.le_log2 h0).1 (by omega)
  have hX1 : N * 2 ^ s < 2 ^ (64 * W + 64) := by
    rw [hsum, Nat.pow_add]
    exact Nat.mul_lt_mul_of_pos_right hN1 (Nat.two_pow_pos s)
  have hX2 : 2 ^ (64 * W + 63) ≤ N * 2 ^ s := by
    rw [show 64 * W + 63 = n - 1 + s by omega, Nat.pow_add]
    exact Nat.mul_le_mul_right _ hN2
  have hd := dg_top (N * 2 ^ s) W hX1
  have hr := rnd_scale N (n - 53) s
  rw [show n - 53 + s = 64 * W + 10 + 1 by omega, rnd_bits] at hr
  simp only [stk_one, hd]
  have e1 : N * 2 ^ s / 2 ^ (64 * W + 10) = N * 2 ^ s / 2 ^ (64 * W) / 1024 := by rw [Nat.pow_add, ← Nat.div_div_eq_div_mul]
  have e2 : N * 2 ^ s / 2 ^ (64 * W + 10 + 1) = N * 2 ^ s / 2 ^ (64 * W) / 2048 := by rw [Nat.pow_succ, Nat.pow_add, ← Nat.div_div_eq_div_mul, ← Nat.div_div_eq_div_mul, Nat.div_div_eq_div_mul _ _ 2]
  rw [e1, e2] at hr
  refine ⟨hr, ?_⟩
  rw [Nat.le_div_iff_mul_le (Nat.two_pow_pos _), show 9223372036854775808 = 2 ^ 63 by decide, ← Nat.pow_add, Nat.add_comm]
  exact hX2
theorem or_low (a b k : Nat) (h : b < 2 ^ k) : (2 ^ k * a) ||| b = 2 ^ k * a + b := (Nat.two_pow_add_eq_or_of_lt h a).symm
theorem fA1 (p : Nat) (h : 971 ≤ p) : 9218868437227405312 ≤ (p + 1074) * 4503599627370496 + 9007199254740992 := by omega
theorem fA2 (p K : Nat) (h : 972 ≤ p) (hK : 4503599627370496 ≤ K) : 9218868437227405312 ≤ (p + 1074) * 4503599627370496 + K := by omega
theorem fB1 (p : Nat) (h : p ≤ 970) : (p + 1074) * 4503599627370496 + 9007199254740992 ≤ 9218868437227405312 := by omega
theorem fB2 (p K : Nat) (h : p ≤ 971) (hK : K ≤ 9007199254740991) : (p + 1074) * 4503599627370496 + K ≤ 9218868437227405312 := by omega
theorem fC1 (p : Nat) : (p + 1074) * 4503599627370496 + 9007199254740992 = (p + 1076) * 4503599627370496 + 9223372036854775808 / 2048 % 4503599627370496 := by
  rw [show 9223372036854775808 / 2048 % 4503599627370496 = 0 by decide]
  omega
theorem fC2 (p K : Nat) (h1 : 4503599627370496 ≤ K) (h2 : K ≤ 9007199254740991) : (p + 1074) * 4503599627370496 + K = (p + 1075) * 4503599627370496 + K * 2048 / 2048 % 4503599627370496 := by
  rw [Nat.mul_div_cancel _ (by decide)]
  omega
theorem word_sgn (neg : Bool) (Y : Nat) : Ieee.double.word neg Y = (if neg then 9223372036854775808 else 0) + Y := by
  cases neg <;> simp [Ieee.Format.word, dbl_sign]
/-- the bits that Float64 puts together -/
theorem f64_bits (neg : Bool) (N n K : Nat) (hn : n = blen N) (h64 : 54 ≤ n) (hK : K = rnd N (n - 53)) (ex : Int) (hex : ex = if K = 9007199254740992 then (n : Int) + 1 else (n : Int)) (mm : Nat) (hmm : mm = if K = 9007199254740992 then 9223372036854775808 else K * 2048) :
    mm < 18446744073709551616 ∧ (1023 < ex - 1 → FL neg N = infOf neg) ∧ (¬ 1023 < ex - 1 → ∀ E : Nat, (E : Int) = ex + 1022 → E ≤ 2046 ∧ FL neg N = (if neg then 9223372036854775808 else 0) + (E * 4503599627370496 + mm / 2048 % 4503599627370496)) := by
  have h0 : N ≠ 0 := by
    rintro rfl
    have : blen 0 = 0 := by simp [blen]
    omega
  obtain ⟨p, rfl⟩ : ∃ p, n = p + 53 := ⟨n - 53, by omega⟩
  rw [Nat.add_sub_cancel] at hK
  have hl : N.log2 = p + 52 := by
    have : blen N = N.log2 + 1 := by unfold blen; rw [if_neg h0]
    omega
  obtain ⟨r1, r2⟩ := rnd_range N p h0 hl
  have hF := FL_big neg N p h0 hl
  rw [← hK] at r1 r2 hF
  clear hK hl h64 hn
  by_cases hb : K = 9007199254740992
  · rw [if_pos hb] at hex hmm
    rw [hb] at hF
    clear r1 r2 hb
    subst hmm hex
    refine ⟨by decide, fun h => ?_, fun h E hE => ?_⟩
    · rw [hF, infOf_word, Nat.min_eq_right (fA1 p (by omega))]
    · have hp : p ≤ 970 := by omega
      obtain rfl : E = p + 1076 := by omega
      refine ⟨by omega, ?_⟩
      rw [hF, Nat.min_eq_left (fB1 p hp), word_sgn, fC1]
  · rw [if_neg hb] at hex hmm
    have r3 : K ≤ 9007199254740991 := by omega
    clear hb r2
    subst hmm hex
    refine ⟨by omega, fun h => ?_, fun h E hE => ?_⟩
    · rw [hF, infOf_word, Nat.min_eq_right (fA2 p K (by omega) r1)]
    · have hp : p ≤ 971 := by omega
      obtain rfl : E = p + 1075 := by omega
      refine ⟨by omega, ?_⟩
      rw [hF, Nat.min_eq_left (fB2 p K hp r3), word_sgn, fC2 p K r1 r3]
theorem and_52 (t : Nat) (ht : t < 18446744073709551616) : bits .and .u64 (t : Int) 4503599627370495 = ((t % 4503599627370496 : Nat) : Int) := by
  have h := u64_and_nat t 4503599627370495 ht (by omega)
  rw [show (4503599627370495 : Int) = ((4503599627370495 : Nat) : Int) by rfl, h]
  have := Nat.and_two_pow_sub_one_eq_mod t 52
  rw [show (2 : Nat) ^ 52 - 1 = 4503599627370495 by decide, show (2 : Nat) ^ 52 = 4503599627370496 by decide] at this
  rw [this]
/-- sign, exponent and significand put together -/
theorem or_parts (sg E M : Nat) (hsg : sg = 0 ∨ sg = 9223372036854775808) (hE : E ≤ 2046) (hM : M < 4503599627370496) :
    bits .or .u64 (sg : Int) ((E * 4503599627370496 : Nat) : Int) = ((sg + E * 4503599627370496 : Nat) : Int) ∧ bits .or .u64 ((sg + E * 4503599627370496 : Nat) : Int) (M : Int) = ((sg + E * 4503599627370496 + M : Nat) : Int) := by
  have h52 : (2 : Nat) ^ 52 = 4503599627370496 := by decide
  have h63 : (2 : Nat) ^ 63 = 9223372036854775808 := by decide
  constructor
  · rw [u64_or_nat _ _ (by omega) (by omega)]
    rcases hsg with rfl | rfl
    · rw [Nat.zero_or, Nat.zero_add]
    · have := or_low 1 (E * 4503599627370496) 63 (by rw [h63]; omega)
      rw [h63, Nat.mul_one] at this
      rw [this]
  · rw [u64_or_nat _ _ (by omega) (by omega)]
    obtain ⟨a, ha⟩ : ∃ a, sg + E * 4503599627370496 = 4503599627370496 * a := ⟨sg / 4503599627370496 + E, by omega⟩
    have := or_low a M 52 (by rw [h52]; exact hM)
    rw [h52] at this
    rw [ha, this]
end Go.Proofs.Ytnheiigdgklbcaa
