/- The reference's length. -/
import Derived.Test.YtnheiigdgklbcaaSp
import Derived.Test.YtnheiigdgklbcaaSd
import Derived.Laws.FloatArith
namespace Go.Proofs.Ytnheiigdgklbcaa
open Go.ChangeShapes Go.WideShapes Go.ChangeAt Go.RowKit
set_option linter.unusedVariables false
/-- the float (of 64 bits) nearest to a whole number -/
def FL (neg : Bool) (m : Nat) : Nat := Ieee.double.nearest neg m 0
theorem dbl_place : Ieee.double.leastPlace = -1074 := by decide
theorem dbl_bin : Ieee.double.binade = 4503599627370496 := by decide
theorem dbl_inf : Ieee.double.infRung = 9218868437227405312 := by decide
theorem dbl_sign : Ieee.double.signWeight = 9223372036854775808 := by decide
theorem cut_none (neg : Bool) (n : Nat) : Ieee.Toward.even.cut neg n 0 = n := by
  simp [Ieee.Toward.cut, Nat.mod_one]
theorem log2_lt {m k : Nat} (h0 : m ≠ 0) (h : m < 2 ^ (k + 1)) : m.log2 ≤ k := by
  have := (Nat.log2_lt h0).2 h
  omega
theorem log2_ge {m k : Nat} (h0 : m ≠ 0) (h : 2 ^ k ≤ m) : k ≤ m.log2 := (Nat.le_log2 h0).2 h
theorem small_rung (L X : Nat) (hl : L ≤ 52) (hb : X < 9007199254740992) : (L + 1022) * 4503599627370496 + X ≤ 9218868437227405312 := by omega
/-- of one that has room in the significand -/
theorem FL_small (neg : Bool) (m : Nat) (h0 : m ≠ 0) (hl : m.log2 ≤ 52) : FL neg m = Ieee.double.word neg ((m.log2 + 1022) * 4503599627370496 + m * 2 ^ (52 - m.log2)) := by
  have hlt : m < 2 ^ (m.log2 + 1) := (Nat.log2_lt h0).1 (Nat.lt_succ_self _)
  have hb : m * 2 ^ (52 - m.log2) < 9007199254740992 := by
    have h1 : m * 2 ^ (52 - m.log2) < 2 ^ (m.log2 + 1) * 2 ^ (52 - m.log2) := Nat.mul_lt_mul_of_pos_right hlt (Nat.two_pow_pos _)
    rw [← Nat.pow_add, show m.log2 + 1 + (52 - m.log2) = 53 by omega] at h1
    exact h1
  unfold FL Ieee.Format.nearest
  rw [if_neg h0, dbl_place, dbl_bin, dbl_inf]
  have hf : (Ieee.double.fractionBits : Int) = 52 := rfl
  rw [hf]
  have hmax : max ((0 : Int) + (m.log2 : Int) - 52) (-1074) = (m.log2 : Int) - 52 := by omega
  simp only [hmax]
  have e1 : ((0 : Int) - ((m.log2 : Int) - 52)).toNat = 52 - m.log2 := by omega
  have e2 : (((m.log2 : Int) - 52) - 0).toNat = 0 := by omega
  have e3 : (((m.log2 : Int) - 52) - (-1074)).toNat = m.log2 + 1022 := by omega
  rw [e1, e2, e3, cut_none, Nat.shiftLeft_eq]
  generalize m * 2 ^ (52 - m.log2) = X at hb ⊢
  generalize m.log2 = L at hl ⊢
  rw [Nat.min_eq_left (small_rung L X hl hb)]
/-- rounded: to the nearest multiple of 2 ^ p, of two the even one -/
def rnd (m p : Nat) : Nat := m / 2 ^ p + (if 2 ^ p < 2 * (m % 2 ^ p) ∨ (2 ^ p = 2 * (m % 2 ^ p) ∧ m / 2 ^ p % 2 = 1) then 1 else 0)
theorem FL_big (neg : Bool) (m p : Nat) (h0 : m ≠ 0) (hl : m.log2 = p + 52) : FL neg m = Ieee.double.word neg (min ((p + 1074) * 4503599627370496 + rnd m p) 9218868437227405312) := by
  unfold FL Ieee.Format.nearest
  rw [if_neg h0, dbl_place, dbl_bin, dbl_inf]
  have hf : (Ieee.double.fractionBits : Int) = 52 := rfl
  rw [hf, hl]
  have hmax : max ((0 : Int) + ((p + 52 : Nat) : Int) - 52) (-1074) = (p : Int) := by omega
  simp only [hmax]
  have e1 : ((0 : Int) - (p : Int)).toNat = 0 := by omega
  have e2 : ((p : Int) - 0).toNat = p := by omega
  have e3 : ((p : Int) - (-1074)).toNat = p + 1074 := by omega
  rw [e1, e2, e3, Nat.shiftLeft_zero]
  have hc : Ieee.Toward.even.cut neg m p = rnd m p := by
    unfold Ieee.Toward.cut rnd
    rw [hl, Nat.min_eq_left (by omega), Nat.shiftLeft_eq, Nat.one_mul]
    simp only []
    by_cases c : 2 ^ p < 2 * (m % 2 ^ p) ∨ (2 ^ p = 2 * (m % 2 ^ p) ∧ m / 2 ^ p % 2 = 1)
    · rw [if_pos c]
      have : (decide (2 ^ p < 2 * (m % 2 ^ p)) || (2 ^ p == 2 * (m % 2 ^ p) && m / 2 ^ p % 2 == 1)) = true := by
        simpa using c
      rw [this]; rfl
    · rw [if_neg c]
      have : (decide (2 ^ p < 2 * (m % 2 ^ p)) || (2 ^ p == 2 * (m % 2 ^ p) && m / 2 ^ p % 2 == 1)) = false := by
        simpa using c
      rw [this]; rfl
  rw [hc]
/-- a normal float doubled -/
theorem dbl_twice (e f : Nat) (he : 1 ≤ e) (he2 : e ≤ 2045) (hf : f < 4503599627370496) : Ieee.double.mul (e * 4503599627370496 + f) 4611686018427387904 = some ((e + 1) * 4503599627370496 + f) := by
  have hr2 : Ieee.double.read 4611686018427387904 = .number false 4503599627370496 (-51) := by decide
  have hr : Ieee.double.read (e * 4503599627370496 + f) = .number false (4503599627370496 + f) (-1074 + ((e - 1 : Nat) : Int)) := by
    unfold Ieee.Format.read
    rw [dbl_sign, dbl_bin, dbl_inf, dbl_place]
    have h1 : (e * 4503599627370496 + f) / 9223372036854775808 % 2 = 0 := by omega
    have h2 : (e * 4503599627370496 + f) % 9223372036854775808 = e * 4503599627370496 + f := by omega
    have h3 : ¬ e * 4503599627370496 + f < 4503599627370496 := by omega
    have h4 : e * 4503599627370496 + f < 9218868437227405312 := by omega
    have h5 : (e * 4503599627370496 + f) % 4503599627370496 = f := by omega
    have h6 : (e * 4503599627370496 + f) / 4503599627370496 = e := by omega
    simp only [h1, h2]
    rw [if_neg h3, if_pos h4, h5, h6]
    rfl
  unfold Ieee.Format.mul
  rw [hr, hr2]
  simp only [Ieee.Datum.product, Option.map_some, Ieee.Format.write]
  congr 1
  unfold Ieee.Format.nearest
  have hne : ¬ (4503599627370496 + f) * 4503599627370496 = 0 := by omega
  rw [if_neg hne, dbl_place, dbl_bin, dbl_inf]
  have hfb : (Ieee.double.fractionBits : Int) = 52 := rfl
  have hlog : ((4503599627370496 + f) * 4503599627370496).log2 = 104 := by
    apply Nat.le_antisymm
    · exact log2_lt hne (by omega)
    · exact log2_ge hne (by omega)
  rw [hfb, hlog]
  have hmax : max (-1074 + ((e - 1 : Nat) : Int) + -51 + ((104 : Nat) : Int) - 52) (-1074) = -1074 + (e : Int) := by omega
  simp only [hmax]
  have e1 : (-1074 + ((e - 1 : Nat) : Int) + -51 - (-1074 + (e : Int))).toNat = 0 := by omega
  have e2 : (-1074 + (e : Int) - (-1074 + ((e - 1 : Nat) : Int) + -51)).toNat = 52 := by omega
  have e3 : (-1074 + (e : Int) - -1074).toNat = e := by omega
  rw [e1, e2, e3, Nat.shiftLeft_zero]
  have hc : Ieee.Toward.even.cut (false ^^ false) ((4503599627370496 + f) * 4503599627370496) 52 = 4503599627370496 + f := by
    unfold Ieee.Toward.cut
    rw [hlog]
    have g1 : (1 : Nat) <<< min 52 (104 + 2) = 4503599627370496 := by decide
    rw [g1]
    have g2 : (4503599627370496 + f) * 4503599627370496 / 4503599627370496 = 4503599627370496 + f := Nat.mul_div_cancel _ (by decide)
    have g3 : (4503599627370496 + f) * 4503599627370496 % 4503599627370496 = 0 := Nat.mul_mod_left _ _
    simp only [g2, g3]
    simp
  rw [hc]
  simp only [Ieee.Format.word]
  simp
  omega
theorem rnd_scale (m p s : Nat) : rnd (m * 2 ^ s) (p + s) = rnd m p := by
  have hs : 0 < 2 ^ s := Nat.two_pow_pos s
  have h1 : m * 2 ^ s / 2 ^ (p + s) = m / 2 ^ p := by rw [Nat.pow_add]; exact Nat.mul_div_mul_right _ _ hs
  have h2 : m * 2 ^ s % 2 ^ (p + s) = m % 2 ^ p * 2 ^ s := by rw [Nat.pow_add]; exact Nat.mul_mod_mul_right _ _ _
  unfold rnd
  rw [h1, h2, Nat.pow_add, ← Nat.mul_assoc]
  have h3 : 2 ^ p * 2 ^ s < 2 * (m % 2 ^ p) * 2 ^ s ↔ 2 ^ p < 2 * (m % 2 ^ p) := Nat.mul_lt_mul_right hs
  have h4 : 2 ^ p * 2 ^ s = 2 * (m % 2 ^ p) * 2 ^ s ↔ 2 ^ p = 2 * (m % 2 ^ p) := Nat.mul_right_cancel_iff hs
  simp only [h3, h4]
theorem rnd_bits (M r : Nat) : rnd M (r + 1) = M / 2 ^ (r + 1) + (if M / 2 ^ r % 2 = 1 ∧ (M % 2 ^ r ≠ 0 ∨ M / 2 ^ (r + 1) % 2 = 1) then 1 else 0) := by
  have hr : 0 < 2 ^ r := Nat.two_pow_pos r
  have hlt : M % 2 ^ r < 2 ^ r := Nat.mod_lt _ hr
  have hm : M % 2 ^ (r + 1) = M % 2 ^ r + 2 ^ r * (M / 2 ^ r % 2) := by rw [Nat.pow_succ, Nat.mod_mul]
  have hb : M / 2 ^ r % 2 < 2 := Nat.mod_lt _ (by decide)
  unfold rnd
  congr 1
  rw [hm]
  generalize hq : M / 2 ^ (r + 1) % 2 = o
  rw [Nat.pow_succ]
  generalize M % 2 ^ r = x at hlt ⊢
  generalize M / 2 ^ r % 2 = b at hb ⊢
  generalize 2 ^ r = G at hlt hr ⊢
  have e : (G * 2 < 2 * (x + G * b) ∨ G * 2 = 2 * (x + G * b) ∧ o = 1) ↔ (b = 1 ∧ (x ≠ 0 ∨ o = 1)) := by
    rcases (show b = 0 ∨ b = 1 by omega) with rfl | rfl
    · simp; omega
    · simp; omega
  simp only [e]
/-- by the highest word t of a row of W words, whose others are worth low -/
theorem rnd_top (t low W : Nat) (hlow : low < 2 ^ (64 * W)) : rnd (t * 2 ^ (64 * W) + low) (64 * W + 10 + 1) = t / 2048 + (if t / 1024 % 2 = 1 ∧ ((t % 1024 ≠ 0 ∨ low ≠ 0) ∨ t / 2048 % 2 = 1) then 1 else 0) := by
  have hG : 0 < 2 ^ (64 * W) := Nat.two_pow_pos _
  rw [rnd_bits]
  have h1 : (t * 2 ^ (64 * W) + low) / 2 ^ (64 * W) = t := by
    rw [Nat.mul_comm, Nat.mul_add_div hG, Nat.div_eq_of_lt hlow, Nat.add_zero]
  have h2 : (t * 2 ^ (64 * W) + low) / 2 ^ (64 * W + 10 + 1) = t / 2048 := by
    rw [show 64 * W + 10 + 1 = 64 * W + 11 from rfl, Nat.pow_add, ← Nat.div_div_eq_div_mul, h1]
  have h3 : (t * 2 ^ (64 * W) + low) / 2 ^ (64 * W + 10) = t / 1024 := by
    rw [Nat.pow_add, ← Nat.div_div_eq_div_mul, h1]
  have h4 : (t * 2 ^ (64 * W) + low) % 2 ^ (64 * W + 10) = low + 2 ^ (64 * W) * (t % 1024) := by
    rw [Nat.pow_add, Nat.mod_mul, h1]
    congr 1
    rw [Nat.mul_comm, Nat.mul_add_mod, Nat.mod_eq_of_lt hlow]
  rw [h2, h3, h4]
  have h5 : low + 2 ^ (64 * W) * (t % 1024) ≠ 0 ↔ (t % 1024 ≠ 0 ∨ low ≠ 0) := by
    constructor
    · intro h
      by_cases c : t % 1024 = 0
      · right
        intro c2
        apply h
        rw [c, c2]
        simp
      · exact .inl c
    · rintro (h | h)
      · have := Nat.mul_pos hG (Nat.pos_of_ne_zero h)
        omega
      · omega
  simp only [h5]
/-- how many binary digits -/
def blen (m : Nat) : Nat := if m = 0 then 0 else m.log2 + 1
theorem blen_hit (m j : Nat) (h1 : m < 2 ^ (j + 1)) (h2 : m / 2 ^ j % 2 = 1) : blen m = j + 1 := by
  have hp := Nat.two_pow_pos j
  have hge : 2 ^ j ≤ m := by
    apply Classical.byContradiction
    intro h
    rw [Nat.div_eq_of_lt (by omega)] at h2
    cases h2
  have h0 : m ≠ 0 := by omega
  unfold blen
  rw [if_neg h0]
  congr 1
  apply Nat.le_antisymm
  · have := (Nat.log2_lt h0).2 h1
    omega
  · exact (Nat.le_log2 h0).2 hge
theorem blen_miss (m j : Nat) (h1 : m < 2 ^ (j + 1)) (h2 : ¬ m / 2 ^ j % 2 = 1) : m < 2 ^ j := by
  have hp := Nat.two_pow_pos j
  rw [Nat.pow_succ] at h1
  have h3 : m / 2 ^ j < 2 := (Nat.div_lt_iff_lt_mul hp).2 (by omega)
  have h4 : m / 2 ^ j = 0 := by
    generalize m / 2 ^ j = x at h2 h3
    omega
  rcases Nat.div_eq_zero_iff.1 h4 with h | h
  · omega
  · exact h
theorem specbit_any (A : Option Addr) (c : Nat) (l : List Nat) (hd : ∀ d ∈ l, d < 256) (i : Nat) (hi : i ≤ 800000000) (w : World) (hs : Sl w A c (by8 l)) :
    Calls Try.prog 19 #[.slice A l.length c, .int .i64 (i : Int)] w fun e w' => e = .returned (.int .i64 ((beN l / 2 ^ i % 2 : Nat) : Int)) ∧ w = w' := by
  have h1 := digit_any A c l hd (i / 8) (by omega) w hs
  have h2 := bitAt_any A c l.length (i / 8) (i % 8) _ (by omega) (by omega) (Num.dg_lt (by omega) (beN l) (i / 8)) w (Lib.hid h1)
  rw [bit_val] at h2
  have e : (8 * ((i / 8 : Nat) : Int) + ((i % 8 : Nat) : Int)) = (i : Int) := by omega
  rw [e] at h2
  exact h2
theorem wrap_dec (j : Nat) (h : j ≤ 100000000000) : wrap64 (j : Int) = (j : Int) ∧ wrap64 ((j : Int) + 1 - 1) = (j : Int) := by
  unfold wrap64
  omega
set_option maxRecDepth 100000 in
theorem Length_any (b : Bool) (A : Option Addr) (n c : Nat) (z : Int) (hz : z.natAbs < Num.Cap) (w : World) (hv : SI w (.agg #[.bool b, .slice A n c]) z) :
    Calls Try.prog 13 #[.agg #[.bool b, .slice A n c]] w fun e w' => e = .returned (.int .i64 ((blen z.natAbs : Nat) : Int)) ∧ Kept w w' := by
  obtain ⟨hb, l, rfl, hs, hl⟩ := hv.parts
  have hlen := hl.len hz
  have hk0 : Kept w (w.alloc (.cells #[.bool b, .slice A l.length c] 24)) := by go_grown
  have c1 : (w.alloc (.cells #[.bool b, .slice A l.length c] 24)).cell? ⟨w.heap.size, 1, none⟩ = some (.slice A l.length c) := (Blk.new w _ _).cell 1
  have HD : Hid (∀ i W, i ≤ 800000000 → Kept w W → Calls Try.prog 19 #[.slice A l.length c, .int .i64 ((i : Nat) : Int)] W fun e w' => e = .returned (.int .i64 ((z.natAbs / 2 ^ i % 2 : Nat) : Int)) ∧ W = w') := Lib.hid fun i W hi hk => by
    have := specbit_any A c l hl.lt i hi W (hs.below hk)
    rwa [show beN l = z.natAbs from hl.num] at this
  have hst : z.natAbs < 2 ^ (8 * l.length) := by
    have h1 := beN_lt l hl.lt
    rw [show beN l = z.natAbs from hl.num, pow8] at h1
    exact h1
  have hl8 : 8 * l.length ≤ 100000 := by omega
  have hw8 : wrap64 (8 * (l.length : Int)) = ((8 * l.length : Nat) : Int) := by unfold wrap64; omega
  clear hs hl hb
  generalize z.natAbs = N at *
  have HST := Lib.hid hst
  clear hst
  go_enter Try.func13, Try.ntmps13
  go_wp2_with fail
  generalize (w.alloc (.cells #[.bool b, .slice A l.length c] 24)) = W at *
  go_loop [3] (fun iv => ∃ i : Nat, iv = .int .i64 ((i : Nat) : Int) ∧ i ≤ 100000 ∧ Hid (N < 2 ^ i)) (fun iv => (intOf iv).toNat)
  case atStart => exact ⟨8 * l.length, rfl, hl8, HST⟩
  case round =>
    obtain ⟨i, rfl, hi, hN⟩ := hrel
    rcases i with _ | j
    · have h0 : N = 0 := by have := hN.out; omega
      have HN := Lib.hid h0
      clear h0
      go_wp2_with fail
      go_ret
      exact ⟨by rw [HN.out]; rfl, hk0⟩
    · have hjI : (j : Int) ≤ 100000 := by omega
      obtain ⟨hw1, hw2⟩ := wrap_dec j (by omega)
      have HDj := Lib.hid (HD.out j W (by omega) hk0)
      have HH := Lib.hid (blen_hit N j hN.out)
      have HM := Lib.hid (blen_miss N j hN.out)
      clear hN
      obtain ⟨d, hd⟩ : ∃ d, d = N / 2 ^ j % 2 := ⟨_, rfl⟩
      rw [← hd] at HDj HH HM
      have hd2 : d = 0 ∨ d = 1 := by omega
      clear hd
      go_wp2_with fail
      refine HDj.out.mono ?_
      rintro e w1 ⟨rfl, rfl⟩
      rcases hd2 with rfl | rfl
      · go_wp2_with fail
        exact ⟨⟨j, rfl, by omega, Lib.hid (HM.out (by first | decide | trivial))⟩, by simp [intOf]⟩
      · go_wp2_with fail
        go_ret
        exact ⟨by rw [HH.out (by first | trivial | rfl)]; rfl, hk0⟩
end Go.Proofs.Ytnheiigdgklbcaa
