/- The reference's bits and powers. -/
import Derived.Test.YtnheiigdgklbcaaSf
import Derived.Deep.RegionHeld3
namespace Go.Proofs.Ytnheiigdgklbcaa
open Go.ChangeShapes Go.WideShapes Go.ChangeAt Go.RowKit
set_option linter.unusedVariables false
theorem pow8 (q : Nat) : 256 ^ q = 2 ^ (8 * q) := by
  rw [Nat.pow_mul]
theorem ofInt_i64 (a : Nat) (ha : a < 9223372036854775808) : (BitVec.ofInt 64 (a : Int)).toNat = a := by
  rw [BitVec.ofInt_natCast, BitVec.toNat_ofNat]; exact Nat.mod_eq_of_lt (by omega)
theorem i64_and_nat (a b : Nat) (ha : a < 9223372036854775808) (hb : b < 9223372036854775808) : bits .and .i64 (a : Int) (b : Int) = ((a &&& b : Nat) : Int) := by
  have hx : a &&& b < 2 ^ 63 := Nat.and_lt_two_pow _ (by omega)
  show IntKind.i64.wrap ((BitVec.ofInt 64 (a : Int) &&& BitVec.ofInt 64 (b : Int)).toNat : Int) = _
  rw [BitVec.toNat_and, ofInt_i64 a ha, ofInt_i64 b hb, IntKind.wrap_i64]
  omega
/-- the quotient's bits from place k on -/
def qF (X Y k : Nat) : Nat := X / 2 ^ k / Y * 2 ^ k
theorem half_step (X i : Nat) : X / 2 ^ i = 2 * (X / 2 ^ (i + 1)) + X / 2 ^ i % 2 := by
  rw [Nat.pow_succ, ← Nat.div_div_eq_div_mul]
  omega
theorem div_uniq (a y q r : Nat) (h : a = y * q + r) (hr : r < y) : a / y = q ∧ a % y = r := by
  subst h
  rw [Nat.mul_add_div (by omega), Nat.mul_add_mod, Nat.div_eq_of_lt hr, Nat.mod_eq_of_lt hr]
  exact ⟨rfl, rfl⟩
/-- one round of the division bit by bit -/
theorem split_step (X Y i : Nat) (hY : 0 < Y) :
    (2 * (X / 2 ^ (i + 1) % Y) + X / 2 ^ i % 2 < Y → X / 2 ^ i % Y = 2 * (X / 2 ^ (i + 1) % Y) + X / 2 ^ i % 2 ∧ qF X Y i = qF X Y (i + 1)) ∧
    (Y ≤ 2 * (X / 2 ^ (i + 1) % Y) + X / 2 ^ i % 2 → X / 2 ^ i % Y = 2 * (X / 2 ^ (i + 1) % Y) + X / 2 ^ i % 2 - Y ∧ qF X Y i = qF X Y (i + 1) + 2 ^ i) := by
  have h1 := half_step X i
  have h2 := Nat.div_add_mod (X / 2 ^ (i + 1)) Y
  have h3 := Nat.mod_lt (X / 2 ^ (i + 1)) hY
  have h4 := Nat.mod_lt (X / 2 ^ i) (show 0 < 2 by omega)
  unfold qF
  rw [Nat.pow_succ] at *
  generalize X / 2 ^ i = P at *
  generalize X / (2 ^ i * 2) = Q at *
  generalize Q / Y = m at *
  generalize Q % Y = L at *
  generalize P % 2 = b at *
  constructor
  · intro h
    obtain ⟨d1, d2⟩ := div_uniq P Y (2 * m) (2 * L + b) (by rw [Nat.mul_left_comm]; omega) h
    refine ⟨d2, ?_⟩
    rw [d1, Nat.mul_comm (2 ^ i) 2, ← Nat.mul_assoc, Nat.mul_comm m 2]
  · intro h
    obtain ⟨d1, d2⟩ := div_uniq P Y (2 * m + 1) (2 * L + b - Y) (by rw [Nat.mul_add, Nat.mul_one, Nat.mul_left_comm]; omega) (by omega)
    refine ⟨d2, ?_⟩
    rw [d1, Nat.add_mul, Nat.one_mul, Nat.mul_comm (2 ^ i) 2, ← Nat.mul_assoc, Nat.mul_comm m 2]
theorem dg_below (t q r j : Nat) (hj : j < q) : Num.dg 256 (t * 2 ^ (8 * q + r)) j = 0 := by
  obtain ⟨u, rfl⟩ : ∃ u, q = j + 1 + u := ⟨q - j - 1, by omega⟩
  have e : t * 2 ^ (8 * (j + 1 + u) + r) = (t * 2 ^ (8 * u + r) * 256) * 256 ^ j := by
    rw [pow8, Nat.mul_assoc, Nat.mul_assoc, show 256 = 2 ^ 8 from rfl, ← Nat.pow_add, ← Nat.pow_add]
    congr 2
    omega
  unfold Num.dg
  rw [e, Nat.mul_div_cancel _ (Nat.pow_pos (by omega)), Nat.mul_mod_left]
theorem dg_above (m i j : Nat) (hj : i < 8 * j) : Num.dg 256 (m * 2 ^ (i + 1) + 2 ^ i) j = Num.dg 256 (m * 2 ^ (i + 1)) j := by
  obtain ⟨u, hu⟩ : ∃ u, 8 * j = i + 1 + u := ⟨8 * j - i - 1, by omega⟩
  unfold Num.dg
  have hp : 2 ^ (i + 1 + u) = 2 ^ (i + 1) * 2 ^ u := Nat.pow_add ..
  rw [pow8, hu, hp, ← Nat.div_div_eq_div_mul, ← Nat.div_div_eq_div_mul, Nat.mul_div_cancel _ (Nat.two_pow_pos _)]
  have e : (m * 2 ^ (i + 1) + 2 ^ i) / 2 ^ (i + 1) = m := by
    rw [Nat.mul_comm, Nat.mul_add_div (Nat.two_pow_pos _), Nat.div_eq_of_lt (by rw [Nat.pow_succ]; have := Nat.two_pow_pos i; omega), Nat.add_zero]
  rw [e]
theorem dg_at (m q r : Nat) (hr : r < 8) : ∃ t, Num.dg 256 (m * 2 ^ (8 * q + r + 1)) q = t * 2 ^ (r + 1) ∧ Num.dg 256 (m * 2 ^ (8 * q + r + 1) + 2 ^ (8 * q + r)) q = t * 2 ^ (r + 1) + 2 ^ r := by
  have e1 : m * 2 ^ (8 * q + r + 1) = (m * 2 ^ (r + 1)) * 256 ^ q := by
    rw [pow8, Nat.mul_assoc, ← Nat.pow_add]; congr 2; omega
  have e2 : 2 ^ (8 * q + r) = 2 ^ r * 256 ^ q := by rw [pow8, ← Nat.pow_add]; congr 1; omega
  unfold Num.dg
  rw [e1, e2, ← Nat.add_mul, Nat.mul_div_cancel _ (Nat.pow_pos (by omega)), Nat.mul_div_cancel _ (Nat.pow_pos (by omega))]
  refine ⟨m % 2 ^ (7 - r), ?_⟩
  have h : r = 0 ∨ r = 1 ∨ r = 2 ∨ r = 3 ∨ r = 4 ∨ r = 5 ∨ r = 6 ∨ r = 7 := by omega
  rcases h with rfl | rfl | rfl | rfl | rfl | rfl | rfl | rfl <;> (simp only [Nat.reducePow, Nat.reduceAdd, Nat.reduceSub]; omega)
/-- the row of the quotient's digits -/
def qd (Q n j : Nat) : Value := .int .u8 ((Num.dg 256 Q (n - 1 - j) : Nat) : Int)
theorem qd_set (m n q r : Nat) (hr : r < 8) (hq : q < n) : ∀ j, j < n → (if j = n - 1 - q then Value.int .u8 ((Num.dg 256 (m * 2 ^ (8 * q + r + 1) + 2 ^ (8 * q + r)) q : Nat) : Int) else qd (m * 2 ^ (8 * q + r + 1)) n j) = qd (m * 2 ^ (8 * q + r + 1) + 2 ^ (8 * q + r)) n j := by
  intro j hj
  by_cases h : j = n - 1 - q
  · rw [if_pos h]
    unfold qd
    congr 3
    omega
  · rw [if_neg h]
    unfold qd
    congr 2
    rcases Nat.lt_or_ge (n - 1 - j) q with h1 | h1
    · have e : m * 2 ^ (8 * q + r + 1) = (2 * m) * 2 ^ (8 * q + r) := by rw [Nat.pow_succ]; generalize 2 ^ (8 * q + r) = p; rw [← Nat.mul_assoc, Nat.mul_comm (m * p), ← Nat.mul_assoc]
      rw [e]
      have e2 : (2 * m) * 2 ^ (8 * q + r) + 2 ^ (8 * q + r) = (2 * m + 1) * 2 ^ (8 * q + r) := by rw [Nat.add_mul, Nat.one_mul]
      rw [e2, dg_below _ q r _ h1, dg_below _ q r _ h1]
    · rw [dg_above m (8 * q + r) (n - 1 - j) (by omega)]
theorem rowIs_kept {w w' : World} {b : Nat} {t : TypeId} {n : Nat} {f : Nat → Value} (h : w.rowIs b t n f) (hb : Kept w w') : w'.rowIs b t n f := by
  obtain ⟨cur, h1, h2⟩ := h
  exact ⟨cur, (hb.block b (block_lt h1)).trans h1, h2⟩
theorem or_bit (d t r : Nat) (hr : r < 8) (hd : d = t * 2 ^ (r + 1)) (h : d + 2 ^ r < 256) : bits .or .u8 (d : Int) ((2 ^ r : Nat) : Int) = ((d + 2 ^ r : Nat) : Int) := by
  have hp := Nat.two_pow_pos r
  rw [u8_or_nat d (2 ^ r) (by omega) (by omega), hd, Nat.or_comm, or_shl (2 ^ r) t (r + 1) (by rw [Nat.pow_succ]; have := Nat.two_pow_pos r; omega), Nat.add_comm]
theorem bit_val (A i : Nat) : Num.dg 256 A (i / 8) / 2 ^ (i % 8) % 2 = A / 2 ^ i % 2 := by
  have e : A / 2 ^ i = A / 256 ^ (i / 8) / 2 ^ (i % 8) := by
    rw [pow8, Nat.div_div_eq_div_mul, ← Nat.pow_add]
    congr 2
    omega
  rw [e]
  unfold Num.dg
  generalize A / 256 ^ (i / 8) = M
  have h : i % 8 = 0 ∨ i % 8 = 1 ∨ i % 8 = 2 ∨ i % 8 = 3 ∨ i % 8 = 4 ∨ i % 8 = 5 ∨ i % 8 = 6 ∨ i % 8 = 7 := by omega
  rcases h with h | h | h | h | h | h | h | h <;> (rw [h]; simp only [Nat.reducePow]; omega)
theorem cast8 (q r : Nat) (hr : r < 8) : ((8 * q + r : Nat) : Int) = 8 * (q : Int) + (r : Int) ∧ (8 * (q : Int) + (r : Int)) / 8 = (q : Int) ∧ (8 * (q : Int) + (r : Int)) % 8 = (r : Int) := by omega
set_option maxRecDepth 100000 in
theorem bitAt_any (A : Option Addr) (c : Nat) (n : Nat) (q r d : Nat) (hr : r < 8) (hq : q ≤ 100000000) (hd : d < 256) (w : World)
    (HD : Hid (Calls Try.prog 44 #[.slice A n c, .int .i64 q] w fun e w' => e = .returned (.int .i64 (d : Int)) ∧ w = w')) :
    Calls Try.prog 19 #[.slice A n c, .int .i64 (8 * (q : Int) + (r : Int))] w fun e w' => e = .returned (.int .i64 ((d / 2 ^ r % 2 : Nat) : Int)) ∧ w = w' := by
  have h1 : (8 * (q : Int) + (r : Int)) / 8 = (q : Int) := (cast8 q r hr).2.1
  have h2 : (8 * (q : Int) + (r : Int)) % 8 = (r : Int) := (cast8 q r hr).2.2
  have h3 : (r : Int) < 8 := by omega
  have h4 : (d : Int) < 256 := by omega
  have h5 : (0 : Int) ≤ 8 * (q : Int) + (r : Int) := by omega
  have h6 : IntKind.u64.wrap (r : Int) = (r : Int) := by rw [IntKind.wrap_u64]; omega
  clear hr
  go_enter Try.func19, Try.ntmps19
  go_wp2_with fail
  refine (HD.out).mono ?_
  rintro e w1 ⟨rfl, rfl⟩
  go_wp2_with fail
  go_ret
  have e : bits .and .i64 ((d : Int) / 2 ^ r) 1 = ((d / 2 ^ r % 2 : Nat) : Int) := by
    have hl : d / 2 ^ r ≤ d := Nat.div_le_self _ _
    have c1 : (d : Int) / 2 ^ r = ((d / 2 ^ r : Nat) : Int) := by push_cast; rfl
    rw [c1, ← Nat.and_one_is_mod]
    exact i64_and_nat (d / 2 ^ r) 1 (by omega) (by omega)
  rw [← e]
  exact ⟨rfl, rfl⟩
end Go.Proofs.Ytnheiigdgklbcaa
