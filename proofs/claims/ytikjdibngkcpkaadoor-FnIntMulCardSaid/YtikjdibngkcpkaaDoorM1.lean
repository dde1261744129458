import Derived.Test.YtikjdibngkcpkaaDoorV1
import Derived.Test.YtikjdibngkcpkaaDoorLa
import Derived.Test.YtikjdibngkcpkaaDoorSh
namespace Go.Proofs.YtikjdibngkcpkaaDoor
open Go.ChangeShapes Go.WideShapes Go.ChangeAt Go.RowKit
set_option linter.unusedVariables false
/-- what is carried into place i of Z + X * m + a -/
def mc (Z X m a i : Nat) : Nat := (Z % Num.B64 ^ i + X % Num.B64 ^ i * m + a) / Num.B64 ^ i
theorem mc_zero (Z X m a : Nat) : mc Z X m a 0 = a := by simp [mc, Nat.mod_one]
theorem mc_lt (Z X m a i : Nat) (hm : m < Num.B64) (ha : a < Num.B64) : mc Z X m a i < Num.B64 := by
  unfold mc
  have hB := Num.B64_pos
  have hP : 0 < Num.B64 ^ i := Nat.pow_pos hB
  rw [Nat.div_lt_iff_lt_mul hP]
  have h1 := Nat.mod_lt Z hP
  have h2 := Nat.mod_lt X hP
  generalize Num.B64 ^ i = p at *
  generalize Num.B64 = b at *
  have h3 : X % p * m ≤ (p - 1) * (b - 1) := Nat.mul_le_mul (by omega) (by omega)
  have h4 : (p - 1) * (b - 1) + (p - 1) + (b - 1) + 1 = b * p := by
    obtain ⟨p', rfl⟩ : ∃ p', p = p' + 1 := ⟨p - 1, by omega⟩
    obtain ⟨b', rfl⟩ : ∃ b', b = b' + 1 := ⟨b - 1, by omega⟩
    simp only [Nat.add_sub_cancel, Nat.mul_add, Nat.mul_comm]
    omega
  omega
theorem mul_split (P Q r q : Nat) (m : Nat) : (P * Q + r) * m + q = P * (Q * m) + (r * m + q) := by
  rw [Nat.add_mul, Nat.mul_assoc]
  omega
theorem sum_div (Z X m a i : Nat) : (Z + X * m + a) / Num.B64 ^ i = Z / Num.B64 ^ i + X / Num.B64 ^ i * m + mc Z X m a i := by
  unfold mc
  have hP : 0 < Num.B64 ^ i := Nat.pow_pos Num.B64_pos
  generalize Num.B64 ^ i = p at *
  have h1 := Nat.div_add_mod Z p
  have h2 := Nat.div_add_mod X p
  have e : Z + X * m + a = (Z % p + X % p * m + a) + p * (Z / p + X / p * m) := by
    conv => lhs; rw [← h1, ← h2]
    rw [Nat.add_mul, Nat.mul_add, Nat.mul_assoc]
    omega
  rw [e, Nat.add_mul_div_left _ _ hP]
  omega
theorem mc_step (Z X m a i : Nat) : Num.dg Num.B64 (Z + X * m + a) i + Num.B64 * mc Z X m a (i + 1) = Num.dg Num.B64 Z i + Num.dg Num.B64 X i * m + mc Z X m a i := by
  have hB := Num.B64_pos
  have h1 := sum_div Z X m a i
  have h2 := sum_div Z X m a (i + 1)
  have hs : ∀ N, N / Num.B64 ^ (i + 1) = N / Num.B64 ^ i / Num.B64 := fun N => by rw [Nat.pow_succ, Nat.div_div_eq_div_mul]
  rw [hs (Z + X * m + a), hs Z, hs X, h1] at h2
  unfold Num.dg
  rw [h1]
  generalize Z / Num.B64 ^ i = z at *
  generalize X / Num.B64 ^ i = x at *
  generalize mc Z X m a i = c at *
  generalize mc Z X m a (i + 1) = c' at *
  generalize Num.B64 = b at *
  have d1 := Nat.div_add_mod (z + x * m + c) b
  have d2 := Nat.div_add_mod z b
  have d3 := Nat.div_add_mod x b
  rw [h2] at d1
  have e : x * m = b * (x / b * m) + x % b * m := by
    conv => lhs; rw [← d3]
    rw [Nat.add_mul, Nat.mul_assoc]
  generalize (z + x * m + c) % b = r at *
  rw [Nat.mul_add, Nat.mul_add] at d1
  generalize x % b * m = xm at *
  generalize b * (x / b * m) = u at *
  generalize b * (z / b) = v at *
  generalize b * c' = t at *
  omega
theorem mc_last (Z X m a n : Nat) (hZ : Z < Num.B64 ^ n) (hX : X < Num.B64 ^ n) : mc Z X m a n = (Z + X * m + a) / Num.B64 ^ n := by
  unfold mc
  rw [Nat.mod_eq_of_lt hZ, Nat.mod_eq_of_lt hX]
/-- the product by the lowest i words of Y -/
theorem pm_succ (Y i : Nat) : Y % Num.B64 ^ (i + 1) = Y % Num.B64 ^ i + Num.B64 ^ i * Num.dg Num.B64 Y i := by
  unfold Num.dg
  rw [Nat.pow_succ, Nat.mod_mul]
theorem pm_step (X Y i : Nat) : X * (Y % Num.B64 ^ (i + 1)) = X * (Y % Num.B64 ^ i) + Num.B64 ^ i * (X * Num.dg Num.B64 Y i) := by
  rw [pm_succ, Nat.mul_add, Nat.mul_left_comm]
theorem pm_low (b P Q i j : Nat) (hb : 0 < b) (h : j < i) : Num.dg b (P + b ^ i * Q) j = Num.dg b P j := by
  unfold Num.dg
  obtain ⟨k, rfl⟩ : ∃ k, i = j + (k + 1) := ⟨i - j - 1, by omega⟩
  rw [Nat.pow_add, Nat.mul_assoc, Nat.add_mul_div_left _ _ (Nat.pow_pos hb), Nat.pow_succ, Nat.mul_assoc, Nat.mul_left_comm, Nat.add_mul_mod_self_left]
theorem dg_add' (b N i j : Nat) : Num.dg b N (i + j) = Num.dg b (N / b ^ i) j := by
  unfold Num.dg
  rw [Nat.pow_add, Nat.div_div_eq_div_mul]
theorem pm_high (b P Q i j : Nat) (hb : 0 < b) : Num.dg b (P + b ^ i * Q) (i + j) = Num.dg b (P / b ^ i + Q) j := by
  rw [dg_add', Nat.add_mul_div_left _ _ (Nat.pow_pos hb)]
theorem pm_lt (X Y n i : Nat) (hX : X < Num.B64 ^ n) : X * (Y % Num.B64 ^ i) < Num.B64 ^ (n + i) := by
  have hP : 0 < Num.B64 ^ i := Nat.pow_pos Num.B64_pos
  have h1 := Nat.mod_lt Y hP
  rw [Nat.pow_add]
  rcases Nat.eq_zero_or_pos (Y % Num.B64 ^ i) with h0 | h0
  · rw [h0, Nat.mul_zero]
    exact Nat.mul_pos (Nat.pow_pos Num.B64_pos) hP
  · exact Nat.lt_of_lt_of_le (Nat.mul_lt_mul_of_pos_right hX h0) (Nat.mul_le_mul_left _ (Nat.le_of_lt h1))
theorem www_split (x y c : Nat) (hx : x < 18446744073709551616) (hy : y < 18446744073709551616) (hc : c < 18446744073709551616) :
    x * y % 18446744073709551616 + c = (x * y + c) % 18446744073709551616 + 18446744073709551616 * ((x * y % 18446744073709551616 + c) / 18446744073709551616) ∧
    x * y / 18446744073709551616 + (x * y % 18446744073709551616 + c) / 18446744073709551616 = (x * y + c) / 18446744073709551616 ∧ (x * y + c) / 18446744073709551616 < 18446744073709551616 := by
  have h : x * y ≤ 18446744073709551615 * 18446744073709551615 := Nat.mul_le_mul (by omega) (by omega)
  generalize x * y = p at *
  omega
set_option maxRecDepth 100000 in
set_option maxHeartbeats 1000000 in
theorem mulAddWWW_any (x y c : Nat) (hx : x < 18446744073709551616) (hy : y < 18446744073709551616) (hc : c < 18446744073709551616) (w : World) :
    Calls Tryd.prog 86 #[.int .u64 (x : Int), .int .u64 (y : Int), .int .u64 (c : Int)] w fun e w' => e = .returned (.tuple #[.int .u64 (((x * y + c) / 18446744073709551616 : Nat) : Int), .int .u64 (((x * y + c) % 18446744073709551616 : Nat) : Int)]) ∧ w = w' := by
  obtain ⟨s1, s2, s3⟩ := www_split x y c hx hy hc
  have HM := Lib.hid (Tryd.bits_Mul x y hx hy w)
  have HA := Lib.hid (bitsAdd_any (x * y % 18446744073709551616) c 0 ((x * y + c) % 18446744073709551616) ((x * y % 18446744073709551616 + c) / 18446744073709551616) (by omega) (Nat.mod_lt _ (by decide)) (by omega) w)
  have hw : IntKind.u64.wrap (((x * y / 18446744073709551616 : Nat) : Int) + (((x * y % 18446744073709551616 + c) / 18446744073709551616 : Nat) : Int)) = (((x * y + c) / 18446744073709551616 : Nat) : Int) := by rw [IntKind.wrap_u64]; omega
  clear s1 s2 s3 hx hy hc
  generalize x * y / 18446744073709551616 = hi at *
  generalize (x * y % 18446744073709551616 + c) / 18446744073709551616 = cc at *
  generalize x * y % 18446744073709551616 = lo at *
  generalize (x * y + c) % 18446744073709551616 = r0 at *
  generalize (x * y + c) / 18446744073709551616 = r1 at *
  go_enter Tryd.func86, Tryd.ntmps86
  go_wp2_with fail
  refine (HM.out).mono ?_
  rintro e w1 ⟨rfl, rfl⟩
  go_wp2_with fail
  refine (HA.out).mono ?_
  rintro e w2 ⟨rfl, rfl⟩
  go_wp2_with fail
  go_ret2
  exact ⟨rfl, rfl⟩
/-- a row's place that was written, and what it holds then -/
def wo2 (S n i : Nat) (f : Nat → Value) (j : Nat) : Value := if n ≤ j ∧ j < n + i then .int .u64 ((Num.dg Num.B64 S (j - n) : Nat) : Int) else f j
theorem wo2_set (S n i : Nat) (f : Nat → Value) : (fun j => if j = n + i then Value.int .u64 ((Num.dg Num.B64 S i : Nat) : Int) else wo2 S n i f j) = wo2 S n (i + 1) f := by
  funext j
  unfold wo2
  by_cases h : j = n + i
  · subst h; rw [if_pos rfl, if_pos (by omega)]; congr 3; omega
  · rw [if_neg h]
    by_cases h2 : n ≤ j ∧ j < n + i
    · rw [if_pos h2, if_pos (by omega)]
    · rw [if_neg h2, if_neg (by omega)]
theorem wo2_zero (S n : Nat) (f : Nat → Value) : wo2 S n 0 f = f := by funext j; unfold wo2; rw [if_neg (by omega)]
theorem word_div {z p c : Nat} (h : z + Num.B64 * c = p) (hz : z < Num.B64) : p / 18446744073709551616 = c ∧ p % 18446744073709551616 = z := by
  have hB : Num.B64 = 18446744073709551616 := rfl
  rw [hB] at h hz
  omega
def MulP (w : World) (g cap o n S : Nat) (f : Nat → Value) (k : Nat) (e : Ending) (w' : World) : Prop := e = .returned (.int .u64 (k : Int)) ∧ w'.rowIs g 70 cap (wo2 S o n f) ∧ w.grownBy w' (some g)
set_option maxRecDepth 100000 in
set_option maxHeartbeats 4000000 in
/-- z in a row of its own from place 0 on, x in another block -/
theorem mulAddVWWg_any (g cap n Lc : Nat) (A : Option Addr) (c : Nat) (X m r : Nat) (f : Nat → Value) (hn : n ≤ cap) (hLc : n ≤ Lc) (hcap : cap ≤ 1000000) (hm : m < Num.B64) (hr0 : r < Num.B64) (w : World) (hr : w.rowIs g 70 cap f)
    (hx : ∀ i wr, i < n → w.grownBy wr (some g) → ∃ b off, A = some ⟨b, off, none⟩ ∧ wr.cell? ⟨b, off + i, none⟩ = some (.int .u64 ((Num.dg Num.B64 X i : Nat) : Int))) :
    Calls Tryd.prog 83 #[.slice (some ⟨g, 0, none⟩) n Lc, .slice A n c, .int .u64 (m : Int), .int .u64 (r : Int)] w (MulP w g cap 0 n (0 + X * m + r) f (mc 0 X m r n)) := by
  have HX := Lib.hid hx
  have HM := Lib.hid (And.intro hm hr0)
  clear hx hm hr0
  go_enter Tryd.func83, Tryd.ntmps83
  go_wp2_with fail
  go_loopw [8, 19] (fun cv iv wr => ∃ i : Nat, iv = .int .i64 i ∧ i ≤ n ∧ cv = .int .u64 ((mc 0 X m r i : Nat) : Int) ∧ wr.rowIs g 70 cap (wo2 (0 + X * m + r) 0 i f) ∧ w.grownBy wr (some g)) (fun _ iv _ => n - (intOf iv).toNat)
  case atStart => exact ⟨0, rfl, Nat.zero_le _, by rw [mc_zero], by rw [wo2_zero]; exact hr, World.grownBy.refl w _⟩
  case round =>
    obtain ⟨i, rfl, hi, rfl, hri, hgi⟩ := hrel
    by_cases hlt : i < n
    · have hst := mc_step 0 X m r i
      have hc1 := mc_lt 0 X m r i HM.out.1 HM.out.2
      have hz := Num.dg_lt Num.B64_pos (0 + X * m + r) i
      have hxl := Num.dg_lt Num.B64_pos X i
      have h0 : Num.dg Num.B64 0 i = 0 := by simp [Num.dg]
      have hst' : Num.dg Num.B64 (0 + X * m + r) i + Num.B64 * mc 0 X m r (i + 1) = Num.dg Num.B64 X i * m + mc 0 X m r i := by
        rw [hst, h0]
        omega
      obtain ⟨b1, o1, rfl, hcx⟩ := HX.out i wr hlt hgi
      have HW := Lib.hid (mulAddWWW_any (Num.dg Num.B64 X i) m (mc 0 X m r i) hxl HM.out.1 hc1 wr)
      obtain ⟨e1, e2⟩ := word_div hst' hz
      rw [e1, e2] at HW
      have hset := hri.set (0 + i) (.int .u64 ((Num.dg Num.B64 (0 + X * m + r) i : Nat) : Int))
      rw [wo2_set, Nat.zero_add] at hset
      have hcl := hri.cell (i := i) (by omega)
      have hfr := hri.frozen i
      have HSET := Lib.hid hset
      have HGS := Lib.hid (only_set hgi i (.int .u64 ((Num.dg Num.B64 (0 + X * m + r) i : Nat) : Int)))
      have i0 : (0 : Int) ≤ (i : Int) := by omega
      have i1 : (i : Int) < (n : Int) := by omega
      clear hset hri hgi hst hst' hz hxl hc1 h0 e1 e2
      generalize hcc2 : mc 0 X m r (i + 1) = cc2 at *
      have HC2 := Lib.hid hcc2
      clear hcc2
      generalize mc 0 X m r i = cc at *
      generalize Num.dg Num.B64 X i = x at *
      generalize Num.dg Num.B64 (0 + X * m + r) i = z at *
      generalize wo2 (0 + X * m + r) 0 i f i = old at *
      go_wp2_with fail
      refine (HW.out).mono ?_
      rintro e w1 ⟨rfl, rfl⟩
      go_wp2_with fail
      exact ⟨⟨i + 1, by go_num, by omega, by rw [HC2.out], HSET.out, HGS.out⟩, by simp [intOf]; omega⟩
    · obtain rfl : i = n := by omega
      go_wp2_with fail
      go_ret
      exact ⟨rfl, hri, hgi⟩
theorem mulAddVWW_any (g cap n Lc : Nat) (A : Option Addr) (c m r S k : Nat) (f : Nat → Value) (w : World)
    (h : Calls Tryd.prog 83 #[.slice (some ⟨g, 0, none⟩) n Lc, .slice A n c, .int .u64 (m : Int), .int .u64 (r : Int)] w (MulP w g cap 0 n S f k)) :
    Calls Tryd.prog 67 #[.slice (some ⟨g, 0, none⟩) n Lc, .slice A n c, .int .u64 (m : Int), .int .u64 (r : Int)] w (MulP w g cap 0 n S f k) := by
  have H := Lib.hid h
  clear h
  go_enter Tryd.func67, Tryd.ntmps67
  go_wp2_with fail
  refine (H.out).mono ?_
  rintro e w1 ⟨rfl, h1, h2⟩
  go_wp2_with fail
  go_ret
  exact ⟨rfl, h1, h2⟩
end Go.Proofs.YtikjdibngkcpkaaDoor
