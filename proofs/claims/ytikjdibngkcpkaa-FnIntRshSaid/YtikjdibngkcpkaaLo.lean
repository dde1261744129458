import Derived.Test.YtikjdibngkcpkaaW7
import Derived.Laws.BitsAllLaws
namespace Go.Proofs.Ytikjdibngkcpkaa
open Go.ChangeShapes Go.WideShapes Go.ChangeAt Go.RowKit
set_option linter.unusedVariables false
theorem tb_or_not (n p q : Nat) (hp : p < 2 ^ n) (hq : q < 2 ^ n) : p ||| (2 ^ n - (q + 1)) = 2 ^ n - (anot q p + 1) := by
  have ha : anot q p < 2 ^ n := by
    unfold anot
    exact Nat.xor_lt_two_pow hq (Nat.and_lt_two_pow _ hp)
  apply Nat.eq_of_testBit_eq
  intro j
  rw [Nat.testBit_or, Nat.testBit_two_pow_sub_succ hq, Nat.testBit_two_pow_sub_succ ha]
  unfold anot
  rw [Nat.testBit_xor, Nat.testBit_and]
  by_cases hj : j < n
  · simp only [hj, decide_true, Bool.true_and]
    cases p.testBit j <;> cases q.testBit j <;> rfl
  · have : p.testBit j = false := Nat.testBit_lt_two_pow (Nat.lt_of_lt_of_le hp (Nat.pow_le_pow_right (by omega) (by omega)))
    rw [this]
    simp [hj]
theorem tb_not_or_not (n p q : Nat) (hp : p < 2 ^ n) (hq : q < 2 ^ n) : (2 ^ n - (p + 1)) ||| (2 ^ n - (q + 1)) = 2 ^ n - ((p &&& q) + 1) := by
  have ha : p &&& q < 2 ^ n := Nat.and_lt_two_pow _ hq
  apply Nat.eq_of_testBit_eq
  intro j
  rw [Nat.testBit_or, Nat.testBit_two_pow_sub_succ hp, Nat.testBit_two_pow_sub_succ hq, Nat.testBit_two_pow_sub_succ ha, Nat.testBit_and]
  by_cases hj : j < n
  · simp only [hj, decide_true, Bool.true_and]
    cases p.testBit j <;> cases q.testBit j <;> rfl
  · simp [hj]
/-- the inclusive or of two integers, bit by bit without an end -/
def orI (x y : Int) : Int :=
  if x < 0 then
    if y < 0 then -((((x.natAbs - 1) &&& (y.natAbs - 1) : Nat) : Int) + 1)
    else -(((anot (x.natAbs - 1) y.natAbs : Nat) : Int) + 1)
  else if y < 0 then -(((anot (y.natAbs - 1) x.natAbs : Nat) : Int) + 1)
  else ((x.natAbs ||| y.natAbs : Nat) : Int)
theorem orI_comm (x y : Int) : orI x y = orI y x := by
  unfold orI
  by_cases hx : x < 0 <;> by_cases hy : y < 0 <;> simp only [hx, hy, if_true, if_false]
  · rw [Nat.and_comm]
  · rw [Nat.or_comm]
theorem anot_le (X Y : Nat) : anot X Y ≤ X := by
  have : anot X Y = X &&& (X ^^^ Y) := by
    apply Nat.eq_of_testBit_eq
    intro j
    unfold anot
    rw [Nat.testBit_xor, Nat.testBit_and, Nat.testBit_and, Nat.testBit_xor]
    cases X.testBit j <;> cases Y.testBit j <;> rfl
  rw [this]
  exact Nat.and_le_left
theorem ofInt64_pos (x : Int) (h0 : 0 ≤ x) (h1 : x < 9223372036854775808) : (BitVec.ofInt 64 x).toNat = x.natAbs := by
  rw [BitVec.toNat_ofInt]
  have : ((2 ^ 64 : Nat) : Int) = 18446744073709551616 := by decide
  rw [this]
  omega
theorem ofInt64_neg (x : Int) (h0 : x < 0) (h1 : -9223372036854775808 ≤ x) : (BitVec.ofInt 64 x).toNat = 2 ^ 64 - ((x.natAbs - 1) + 1) := by
  rw [BitVec.toNat_ofInt]
  have : ((2 ^ 64 : Nat) : Int) = 18446744073709551616 := by decide
  rw [this]
  omega
theorem bits_or_i64 (x y : Int) (hx0 : -9223372036854775808 ≤ x) (hx1 : x < 9223372036854775808) (hy0 : -9223372036854775808 ≤ y) (hy1 : y < 9223372036854775808) : bits .or .i64 x y = orI x y := by
  show IntKind.i64.wrap ((BitVec.ofInt 64 x ||| BitVec.ofInt 64 y).toNat : Int) = _
  rw [BitVec.toNat_or]
  have H63 : (2 : Nat) ^ 63 = 9223372036854775808 := by decide
  have H64 : (2 : Nat) ^ 64 = 18446744073709551616 := by decide
  unfold orI
  by_cases hx : x < 0 <;> by_cases hy : y < 0 <;> simp only [hx, hy, if_true, if_false]
  · rw [ofInt64_neg x hx hx0, ofInt64_neg y hy hy0, tb_not_or_not 64 _ _ (by omega) (by omega)]
    have hb : (x.natAbs - 1) &&& (y.natAbs - 1) < 2 ^ 63 := Nat.and_lt_two_pow _ (by omega)
    generalize (x.natAbs - 1) &&& (y.natAbs - 1) = k at *
    rw [IntKind.wrap_i64]
    omega
  · rw [ofInt64_neg x hx hx0, ofInt64_pos y (by omega) hy1, Nat.or_comm, tb_or_not 64 _ _ (by omega) (by omega)]
    have hb := anot_le (x.natAbs - 1) y.natAbs
    generalize anot (x.natAbs - 1) y.natAbs = k at *
    rw [IntKind.wrap_i64]
    omega
  · rw [ofInt64_pos x (by omega) hx1, ofInt64_neg y hy hy0, tb_or_not 64 _ _ (by omega) (by omega)]
    have hb := anot_le (y.natAbs - 1) x.natAbs
    generalize anot (y.natAbs - 1) x.natAbs = k at *
    rw [IntKind.wrap_i64]
    omega
  · rw [ofInt64_pos x (by omega) hx1, ofInt64_pos y (by omega) hy1]
    have hb : x.natAbs ||| y.natAbs < 2 ^ 63 := Nat.or_lt_two_pow (by omega) (by omega)
    generalize x.natAbs ||| y.natAbs = k at *
    rw [IntKind.wrap_i64]
    omega
theorem P256 (i : Nat) : 256 ^ i = 2 ^ (8 * i) := by
  rw [show (256 : Nat) = 2 ^ 8 by decide, ← Nat.pow_mul]
theorem dg8 (X i : Nat) : Num.dg 256 X i = (X >>> (8 * i)) % 2 ^ 8 := by
  unfold Num.dg
  rw [P256, ← Nat.shiftRight_eq_div_pow]
theorem dg8_and (X Y i : Nat) : Num.dg 256 (X &&& Y) i = Num.dg 256 X i &&& Num.dg 256 Y i := by
  rw [dg8, dg8, dg8, Nat.shiftRight_and_distrib, Nat.and_mod_two_pow]
theorem dg8_or (X Y i : Nat) : Num.dg 256 (X ||| Y) i = Num.dg 256 X i ||| Num.dg 256 Y i := by
  rw [dg8, dg8, dg8, Nat.shiftRight_or_distrib, Nat.or_mod_two_pow]
theorem dg8_xor (X Y i : Nat) : Num.dg 256 (X ^^^ Y) i = Num.dg 256 X i ^^^ Num.dg 256 Y i := by
  rw [dg8, dg8, dg8, Nat.shiftRight_xor_distrib, Nat.xor_mod_two_pow]
theorem dg8_anot (X Y i : Nat) : Num.dg 256 (anot X Y) i = anot (Num.dg 256 X i) (Num.dg 256 Y i) := by
  unfold anot
  rw [dg8_xor, dg8_and]
/-- byte j from below of an integer in two's complement without an end -/
def pb (z : Int) (j : Nat) : Nat := if z < 0 then 255 - Num.dg 256 (z.natAbs - 1) j else Num.dg 256 z.natAbs j
theorem pb_lt (z : Int) (j : Nat) : pb z j < 256 := by
  unfold pb
  have := Num.dg_lt (b := 256) (by decide) z.natAbs j
  split <;> omega
theorem orI_mm {x y : Int} (hx : x < 0) (hy : y < 0) : orI x y < 0 ∧ (orI x y).natAbs - 1 = (x.natAbs - 1) &&& (y.natAbs - 1) := by
  unfold orI
  simp only [hx, hy, if_true]
  omega
theorem orI_mp {x y : Int} (hx : x < 0) (hy : ¬ y < 0) : orI x y < 0 ∧ (orI x y).natAbs - 1 = anot (x.natAbs - 1) y.natAbs := by
  unfold orI
  simp only [hx, hy, if_true, if_false]
  omega
theorem orI_pm {x y : Int} (hx : ¬ x < 0) (hy : y < 0) : orI x y < 0 ∧ (orI x y).natAbs - 1 = anot (y.natAbs - 1) x.natAbs := by
  rw [orI_comm]
  exact orI_mp hy hx
theorem orI_pp {x y : Int} (hx : ¬ x < 0) (hy : ¬ y < 0) : ¬ orI x y < 0 ∧ (orI x y).natAbs = x.natAbs ||| y.natAbs := by
  unfold orI
  simp only [hx, hy, if_false]
  omega
theorem pb_or (x y : Int) (j : Nat) : pb x j ||| pb y j = pb (orI x y) j := by
  have d1 := Num.dg_lt (b := 256) (by decide) (x.natAbs - 1) j
  have d2 := Num.dg_lt (b := 256) (by decide) (y.natAbs - 1) j
  have d3 := Num.dg_lt (b := 256) (by decide) x.natAbs j
  have d4 := Num.dg_lt (b := 256) (by decide) y.natAbs j
  have e : ∀ d, 255 - d = 2 ^ 8 - (d + 1) := fun d => by omega
  by_cases hx : x < 0 <;> by_cases hy : y < 0
  · have h := orI_mm hx hy
    unfold pb
    rw [if_pos hx, if_pos hy, if_pos h.1, h.2, dg8_and, e, e, e]
    exact tb_not_or_not 8 _ _ d1 d2
  · have h := orI_mp hx hy
    unfold pb
    rw [if_pos hx, if_neg hy, if_pos h.1, h.2, dg8_anot, e, e, Nat.or_comm]
    exact tb_or_not 8 _ _ d4 d1
  · have h := orI_pm hx hy
    unfold pb
    rw [if_neg hx, if_pos hy, if_pos h.1, h.2, dg8_anot, e, e]
    exact tb_or_not 8 _ _ d3 d2
  · have h := orI_pp hx hy
    unfold pb
    rw [if_neg hx, if_neg hy, if_neg h.1, h.2, dg8_or]
/-- z needs no more than n digits and a sign -/
def Fits (n : Nat) (z : Int) : Prop := if z < 0 then z.natAbs - 1 < 256 ^ n else z.natAbs < 256 ^ n
theorem fits_of_lt {n : Nat} {z : Int} (h : z.natAbs < 256 ^ n) : Fits n z := by
  unfold Fits
  split <;> omega
theorem fits_or {n : Nat} {x y : Int} (hx : Fits n x) (hy : Fits n y) : Fits n (orI x y) := by
  unfold Fits at *
  by_cases h1 : x < 0 <;> by_cases h2 : y < 0
  · have h := orI_mm h1 h2
    rw [if_pos h1] at hx
    rw [if_pos h.1, h.2]
    exact Nat.lt_of_le_of_lt Nat.and_le_left hx
  · have h := orI_mp h1 h2
    rw [if_pos h1] at hx
    rw [if_pos h.1, h.2]
    exact Nat.lt_of_le_of_lt (anot_le _ _) hx
  · have h := orI_pm h1 h2
    rw [if_pos h2] at hy
    rw [if_pos h.1, h.2]
    exact Nat.lt_of_le_of_lt (anot_le _ _) hy
  · have h := orI_pp h1 h2
    rw [if_neg h1] at hx
    rw [if_neg h2] at hy
    rw [if_neg h.1, h.2, P256]
    rw [P256] at hx hy
    exact Nat.or_lt_two_pow hx hy
end Go.Proofs.Ytikjdibngkcpkaa
