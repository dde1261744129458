/- The reference's nearest float of an integer. -/
import Derived.Test.YtnheiigdgklbcaaFi
import Derived.Deep.RegionHeld3
namespace Go.Proofs.Ytnheiigdgklbcaa
open Go.ChangeShapes Go.WideShapes Go.ChangeAt Go.RowKit
set_option linter.unusedVariables false
theorem rnd_zero (m : Nat) : rnd m 0 = m := by
  simp [rnd, Nat.mod_one]
theorem rnd_lt (m k : Nat) (h : m % 2 ^ (k + 1) < 2 ^ k) : rnd m (k + 1) = m / 2 ^ (k + 1) := by
  unfold rnd
  rw [if_neg (by rw [Nat.pow_succ] at h ⊢; omega), Nat.add_zero]
theorem rnd_gt (m k : Nat) (h : 2 ^ k < m % 2 ^ (k + 1)) : rnd m (k + 1) = m / 2 ^ (k + 1) + 1 := by
  unfold rnd
  rw [if_pos (by rw [Nat.pow_succ] at h ⊢; omega)]
theorem rnd_eq (m k : Nat) (h : m % 2 ^ (k + 1) = 2 ^ k) : rnd m (k + 1) = m / 2 ^ (k + 1) + (if m / 2 ^ (k + 1) % 2 = 1 then 1 else 0) := by
  unfold rnd
  congr 1
  have e : (2 ^ (k + 1) < 2 * (m % 2 ^ (k + 1)) ∨ 2 ^ (k + 1) = 2 * (m % 2 ^ (k + 1)) ∧ m / 2 ^ (k + 1) % 2 = 1) ↔ m / 2 ^ (k + 1) % 2 = 1 := by
    rw [h, Nat.pow_succ]
    have := Nat.two_pow_pos k
    constructor
    · rintro (h1 | h1)
      · omega
      · exact h1.2
    · intro h1
      exact .inr ⟨by omega, h1⟩
  simp only [e]
/-- what is left of a number's rounding: a number of at most 53 digits and a power -/
def Lw (m p k : Nat) : Prop := (p = 0 ∧ k = m ∧ k < 9007199254740992) ∨ (4503599627370496 ≤ k ∧ k < 9007199254740992 ∧ p ≤ 2000 ∧ ∀ neg, FL neg m = Ieee.double.word neg (min ((p + 1074) * 4503599627370496 + k) 9218868437227405312))
theorem word_false (Y : Nat) : Ieee.double.word false Y = Y := by simp [Ieee.Format.word]
theorem two53 : 2 ^ 53 = 9007199254740992 := by decide
theorem two52 : 2 ^ 52 = 4503599627370496 := by decide
theorem rnd_range (m p : Nat) (h0 : m ≠ 0) (hl : m.log2 = p + 52) : 4503599627370496 ≤ rnd m p ∧ rnd m p ≤ 9007199254740992 := by
  have h1 : 2 ^ (p + 52) ≤ m := (Nat.le_log2 h0).1 (by omega)
  have h2 : m < 2 ^ (p + 53) := (Nat.log2_lt h0).1 (by omega)
  have hp := Nat.two_pow_pos p
  rw [Nat.pow_add, two52] at h1
  rw [Nat.pow_add, two53] at h2
  have h3 : 4503599627370496 ≤ m / 2 ^ p := (Nat.le_div_iff_mul_le hp).2 (by rw [Nat.mul_comm]; exact h1)
  have h4 : m / 2 ^ p < 9007199254740992 := (Nat.div_lt_iff_lt_mul hp).2 (by rw [Nat.mul_comm]; exact h2)
  unfold rnd
  generalize m / 2 ^ p = x at h3 h4 ⊢
  split <;> omega
theorem blen_of {k j : Nat} (h1 : 2 ^ j ≤ k) (h2 : k < 2 ^ (j + 1)) : blen k = j + 1 := by
  have h0 : k ≠ 0 := by have := Nat.two_pow_pos j; omega
  unfold blen
  rw [if_neg h0]
  have a := (Nat.le_log2 h0).2 h1
  have b := (Nat.log2_lt h0).2 h2
  omega
theorem blen_lt {k j : Nat} (h : k < 2 ^ j) : blen k ≤ j := by
  unfold blen
  split
  · omega
  · rename_i h0
    exact (Nat.log2_lt h0).2 h
theorem lt_blen {k j : Nat} (h : blen k ≤ j) : k < 2 ^ j := by
  unfold blen at h
  split at h
  · rename_i h0
    subst h0
    exact Nat.two_pow_pos j
  · rename_i h0
    exact (Nat.log2_lt h0).1 (by omega)
theorem near_step (m N p k : Nat) (hN : N = blen m) (hN2 : N ≤ 1600) (hp : p = N - 53) (hk : k = rnd m p) : (blen k ≤ 53 ∧ Lw m p k) ∨ (53 < blen k ∧ Lw m (p + 1) (k / 2)) := by
  by_cases h : N ≤ 53
  · have hp0 : p = 0 := by omega
    subst hp0
    rw [rnd_zero] at hk
    subst hk
    left
    rw [hN] at h
    refine ⟨h, .inl ⟨rfl, rfl, ?_⟩⟩
    rw [← two53]
    exact lt_blen h
  · have h0 : m ≠ 0 := by
      rintro rfl
      rw [hN] at h
      exact h (by decide)
    have hl : m.log2 = p + 52 := by
      unfold blen at hN
      rw [if_neg h0] at hN
      omega
    obtain ⟨r1, r2⟩ := rnd_range m p h0 hl
    have hF := fun neg => FL_big neg m p h0 hl
    rw [← hk] at r1 r2 hF
    by_cases hb : k = 9007199254740992
    · subst hb
      right
      refine ⟨?_, .inr ⟨by decide, by decide, by omega, fun neg => ?_⟩⟩
      · rw [blen_of (j := 53) (by decide) (by decide)]
        omega
      · rw [hF neg]
        have e : (p + 1074) * 4503599627370496 + 9007199254740992 = (p + 1 + 1074) * 4503599627370496 + 9007199254740992 / 2 := by omega
        rw [e]
    · left
      refine ⟨blen_lt (by rw [two53]; omega), .inr ⟨r1, by omega, by omega, hF⟩⟩
theorem Lw.lt {m p k : Nat} (h : Lw m p k) : k < 9007199254740992 := by
  rcases h with ⟨_, _, h⟩ | ⟨_, h, _⟩ <;> exact h
theorem Lw.p_le {m p k : Nat} (h : Lw m p k) : p ≤ 2000 := by
  rcases h with ⟨h, _⟩ | ⟨_, _, h, _⟩ <;> omega
/-- beyond all floats -/
theorem Lw.over {m p k : Nat} (h : Lw m p k) (hb : 1024 < blen k + p) (neg : Bool) : FL neg m = infOf neg := by
  rcases h with ⟨h1, _, h2⟩ | ⟨h1, h2, h3, h4⟩
  · have := blen_lt (k := k) (j := 53) (by rw [two53]; exact h2)
    omega
  · rw [blen_of (j := 52) (by rw [two52]; exact h1) (by rw [two53]; exact h2)] at hb
    rw [h4 neg, infOf_word, Nat.min_eq_right (by omega)]
/-- the number as it is read, doubled j times -/
def dbl (k j : Nat) : Nat := if k < 4503599627370496 then FL false k else (j + 1074) * 4503599627370496 + k
theorem dbl_zero (k : Nat) (h : k < 9007199254740992) : FL false k = dbl k 0 := by
  unfold dbl
  split
  · rfl
  · rename_i hb
    have h0 : k ≠ 0 := by omega
    have hl : k.log2 = 52 := by
      have a := (Nat.le_log2 h0).2 (show 2 ^ 52 ≤ k by rw [two52]; omega)
      have b := (Nat.log2_lt h0).2 (show k < 2 ^ 53 by rw [two53]; omega)
      omega
    rw [FL_small false k h0 (by omega), hl]
    rw [word_false]
    simp
theorem dbl_step (k j : Nat) (h1 : 4503599627370496 ≤ k) (h2 : k < 9007199254740992) (hj : j ≤ 970) : Ieee.double.mul (dbl k j) 4611686018427387904 = some (dbl k (j + 1)) := by
  unfold dbl
  rw [if_neg (by omega), if_neg (by omega)]
  have := dbl_twice (j + 1075) (k - 4503599627370496) (by omega) (by omega) (by omega)
  rw [show (j + 1075) * 4503599627370496 + (k - 4503599627370496) = (j + 1074) * 4503599627370496 + k by omega] at this
  rw [this]
  have e : (j + 1075 + 1) * 4503599627370496 + (k - 4503599627370496) = (j + 1 + 1074) * 4503599627370496 + k := by omega
  rw [e]
theorem Lw.done {m p k : Nat} (h : Lw m p k) (hb : blen k + p ≤ 1024) (neg : Bool) : FL neg m = Ieee.double.word neg (dbl k p) ∧ dbl k p < 9223372036854775808 := by
  rcases h with ⟨h1, h0, h2⟩ | ⟨h1, h2, h3, h4⟩
  · subst h1 h0
    rw [← dbl_zero k h2]
    by_cases hz : k = 0
    · subst hz
      cases neg <;> decide
    · have hl : k.log2 ≤ 52 := by
        have b := (Nat.log2_lt hz).2 (show k < 2 ^ 53 by rw [two53]; omega)
        omega
      rw [FL_small false k hz hl, FL_small neg k hz hl]
      have hlt : k < 2 ^ (k.log2 + 1) := (Nat.log2_lt hz).1 (Nat.lt_succ_self _)
      have hX : k * 2 ^ (52 - k.log2) < 9007199254740992 := by
        have h1 : k * 2 ^ (52 - k.log2) < 2 ^ (k.log2 + 1) * 2 ^ (52 - k.log2) := Nat.mul_lt_mul_of_pos_right hlt (Nat.two_pow_pos _)
        rw [← Nat.pow_add, show k.log2 + 1 + (52 - k.log2) = 53 by omega] at h1
        exact h1
      generalize k * 2 ^ (52 - k.log2) = X at hX ⊢
      generalize k.log2 = L at hl ⊢
      rw [word_false]
      exact ⟨rfl, by omega⟩
  · rw [blen_of (j := 52) (by rw [two52]; exact h1) (by rw [two53]; exact h2)] at hb
    unfold dbl
    rw [if_neg (by omega), h4 neg, Nat.min_eq_left (by omega)]
    exact ⟨rfl, by omega⟩
theorem rnd_cap (m p : Nat) (h : m < 256 ^ 200) : rnd m p < 256 ^ 200 := by
  refine Nat.lt_of_le_of_lt ?_ h
  have hG := Nat.two_pow_pos p
  have e := Nat.div_add_mod m (2 ^ p)
  have hr := Nat.mod_lt m hG
  have hq := Nat.le_mul_of_pos_left (m / 2 ^ p) hG
  unfold rnd
  split <;> omega
theorem Lw.step {m p k j : Nat} (h : Lw m p k) (hb : blen k + p ≤ 1024) (hj : j < p) : Ieee.double.mul (dbl k j) 4611686018427387904 = some (dbl k (j + 1)) := by
  rcases h with ⟨h1, _, h2⟩ | ⟨h1, h2, h3, h4⟩
  · omega
  · rw [blen_of (j := 52) (by rw [two52]; exact h1) (by rw [two53]; exact h2)] at hb
    exact dbl_step k j h1 h2 (by omega)
theorem xor_top (x : Nat) (h : x < 2 ^ 63) : x ^^^ 2 ^ 63 = 2 ^ 63 + x := by
  have e := Nat.two_pow_add_eq_or_of_lt h 1
  rw [Nat.mul_one] at e
  rw [e]
  apply Nat.eq_of_testBit_eq
  intro i
  rw [Nat.testBit_xor, Nat.testBit_or, Nat.testBit_two_pow]
  by_cases hi : 63 = i
  · subst hi
    rw [Nat.testBit_lt_two_pow h]
    rfl
  · simp [hi]
theorem neg_word (x : Nat) (h : x < 9223372036854775808) : Op.negFloat .f64 x = Ieee.double.word true x := by
  have e := xor_top x (by rw [show 2 ^ 63 = 9223372036854775808 by decide]; exact h)
  rw [show 2 ^ 63 = 9223372036854775808 by decide] at e
  show x ^^^ 9223372036854775808 = _
  rw [e]
  simp [Ieee.Format.word, dbl_sign]
theorem run_neg (x : Nat) (h : x < 9223372036854775808) (W : World) : Sem.run Try.prog (Op.unary .neg (.float .f64 x)) W = .ok (.float .f64 (Ieee.double.word true x)) W := by
  rw [← neg_word x h]
  rfl
theorem run_mul (x y r : Nat) (h : Ieee.double.mul x y = some r) (W : World) : Sem.run Try.prog (binOp .mul 33 (.float .f64 x) (.float .f64 y)) W = .ok (.float .f64 r) W := by
  have h' : FloatKind.f64.format.mul x y = some r := h
  simp [binOp, Op.floatArith, h']
theorem wp_cut {P : Program} {c : Code} {K R : Act → World → Prop} {Q : Exit → Act → World → Prop} {a : Act} {w : World} (h1 : c.wp P (Exit.then R Q) a w) (h2 : ∀ a w, R a w → K a w) : c.wp P (Exit.then K Q) a w :=
  Code.wp_mono (fun e a w h => by cases e <;> first | exact h2 _ _ h | exact h) h1
theorem cap_200 {m : Nat} (h : m < 256 ^ 200) : m < Num.Cap := by
  have h2 : 256 ^ 200 ≤ Num.Cap := Nat.pow_le_pow_right (by omega) (by show 200 ≤ 4096; omega)
  exact Nat.lt_of_lt_of_le h h2
theorem blen_le {m : Nat} (h : m < 256 ^ 200) : blen m ≤ 1600 := by
  unfold blen
  split
  · omega
  · rename_i h0
    rw [pow8] at h
    have := (Nat.log2_lt h0).2 h
    omega
theorem PowerN (p : Nat) (hp : p ≤ 1600) (W : World) : Calls Try.prog 18 #[.int .i64 ((p : Nat) : Int)] W (RetSI W ((2 ^ p : Nat) : Int)) := by
  have h := Power_any (p / 8) (p % 8) (by omega) (by omega) W
  have e1 : 8 * ((p / 8 : Nat) : Int) + ((p % 8 : Nat) : Int) = (p : Int) := by omega
  have e2 : 8 * (p / 8) + p % 8 = p := by omega
  rwa [e1, e2] at h
theorem RshN (b : Bool) (A : Option Addr) (n c : Nat) (M p : Nat) (hp : p ≤ 1600) (hM : M < 256 ^ 200) (W : World) (hv : SI W (.agg #[.bool b, .slice A n c]) ((M : Nat) : Int)) :
    Calls Try.prog 14 #[.agg #[.bool b, .slice A n c], .int .i64 ((p : Nat) : Int)] W (RetSI W ((M / 2 ^ p : Nat) : Int)) := by
  have h := sRsh_any b A n c ((M : Nat) : Int) (p / 8) (p % 8) (by omega) (by omega) (by rw [Int.natAbs_natCast]; exact hM) W hv
  have e1 : 8 * ((p / 8 : Nat) : Int) + ((p % 8 : Nat) : Int) = (p : Int) := by omega
  have e2 : 8 * (p / 8) + p % 8 = p := by omega
  rw [e1, e2] at h
  have e3 : ((M : Nat) : Int) / ((2 ^ p : Nat) : Int) = ((M / 2 ^ p : Nat) : Int) := (Int.natCast_ediv M (2 ^ p)).symm
  rwa [e3] at h
theorem LshN (b : Bool) (A : Option Addr) (n c : Nat) (K p : Nat) (hp : p ≤ 1600) (hK : K < Num.Cap) (W : World) (hv : SI W (.agg #[.bool b, .slice A n c]) ((K : Nat) : Int)) :
    Calls Try.prog 16 #[.agg #[.bool b, .slice A n c], .int .i64 ((p : Nat) : Int)] W (RetSI W ((K * 2 ^ p : Nat) : Int)) := by
  have h := sLsh_any b A n c ((K : Nat) : Int) (p / 8) (p % 8) (by omega) (by omega) (by rw [Int.natAbs_natCast]; exact hK) W hv
  have e1 : 8 * ((p / 8 : Nat) : Int) + ((p % 8 : Nat) : Int) = (p : Int) := by omega
  have e2 : 8 * (p / 8) + p % 8 = p := by omega
  rw [e1, e2] at h
  have e3 : ((K : Nat) : Int) * ((2 ^ p : Nat) : Int) = ((K * 2 ^ p : Nat) : Int) := (Int.natCast_mul K (2 ^ p)).symm
  rwa [e3] at h
theorem split8 (p : Nat) : ∃ q r : Nat, r < 8 ∧ p = 8 * q + r := ⟨p / 8, p % 8, by omega, by omega⟩
set_option maxRecDepth 100000 in
set_option maxHeartbeats 4000000 in
theorem Nearest_any (b : Bool) (A : Option Addr) (n c : Nat) (z : Int) (hz : z.natAbs < 256 ^ 200) (w : World) (hv : SI w (.agg #[.bool b, .slice A n c]) z) :
    Calls Try.prog 7 #[.agg #[.bool b, .slice A n c]] w fun e w' => e = .returned (.float .f64 (FL (decide (z < 0)) z.natAbs)) ∧ Kept w w' := by
  have hzc := cap_200 hz
  obtain ⟨hb, l, rfl, sv, uv⟩ := hv.parts
  have hlen := uv.len hzc
  have hk0 : Kept w (w.alloc (.cells #[.bool b, .slice A l.length c] 24)) := by go_grown
  have b1 := Blk.new w 24 #[.bool b, .slice A l.length c]
  have hbl := blen_le hz
  have CL := Lib.hid (fun W h => Length_any b A l.length c z hzc W h)
  have CO := Lib.hid (fun W (h : Kept w W) => Of_any false A c l (by omega) uv.lt W (sv.below h))
  have e0 : sgn false (Num.le 256 l.reverse) = ((z.natAbs : Nat) : Int) := by rw [uv.2]; rfl
  rw [e0] at CO
  have HV := Lib.hid hv
  obtain ⟨N, hN⟩ : ∃ N, N = blen z.natAbs := ⟨_, rfl⟩
  obtain ⟨p, hp⟩ : ∃ p, p = N - 53 := ⟨_, rfl⟩
  have hmax : max ((N : Int) - 53) 0 = (p : Int) := by omega
  have hw1 : wrap64 ((N : Int) - 53) = (N : Int) - 53 := by unfold wrap64; omega
  have HNb := Lib.hid hN
  rw [← hN] at CL
  have Hp := Lib.hid hp
  have HP : Hid (p ≤ 1600) := Lib.hid (by omega)
  have HB := Lib.hid hb
  have HBL := Lib.hid hbl
  clear hv sv uv hb hN hp hbl e0
  go_enter Try.func7, Try.ntmps7
  go_wp2_with fail
  have HW0 := Lib.hid (HV.out.below hk0)
  generalize w.alloc (.cells #[.bool b, .slice A l.length c] 24) = W0 at *
  have B1 := Lib.hid b1
  have HK0 := Lib.hid hk0
  clear b1 hk0
  refine (CL.out W0 HW0.out).mono ?_
  rintro e W1 ⟨rfl, hk1⟩
  have c1 : W1.cell? ⟨w.heap.size, 1, none⟩ = some (.slice A l.length c) := (B1.out.below hk1).cell 1
  have c0 : W1.cell? ⟨w.heap.size, 0, none⟩ = some (.bool b) := (B1.out.below hk1).cell 0
  go_wp2_with fail
  refine (CO.out W1 (HK0.out.trans hk1)).mono ?_
  rintro e W2 ⟨v2, rfl, hv2, hk2⟩
  obtain ⟨b2, A2, n2, cc2, rfl⟩ := hv2.two
  go_wp2_with fail
  have hkA : Kept W2 (W2.alloc (.cells #[.bool b2, .slice A2 n2 cc2] 24)) := (Below.refl _ _).alloc (Nat.le_refl _) _
  have BM0 := Blk.new W2 24 #[.bool b2, .slice A2 n2 cc2]
  have HM0 := hv2.toSI.below hkA
  have hz2 := (HK0.out.trans hk1).size
  have hg : w.heap.size < W2.heap.size := Nat.lt_of_lt_of_le (Nat.lt_of_lt_of_le B1.out.lt hk1.size) hk2.size
  have HK3 : Kept w (W2.alloc (.cells #[.bool b2, .slice A2 n2 cc2] 24)) := ((HK0.out.trans hk1).trans hk2).trans hkA
  have B13 := (B1.out.below (hk1.trans hk2)).below hkA
  obtain ⟨gm, hgm⟩ : ∃ gm, gm = W2.heap.size := ⟨_, rfl⟩
  rw [← hgm] at BM0 hg ⊢
  generalize (W2.alloc (.cells #[.bool b2, .slice A2 n2 cc2] 24)) = W3 at *
  clear hkA hv2 hk2 hk1 c0 c1 hz2 hgm CO CL HW0 HV B1 HK0
  have HMM := Lib.hid HM0
  refine (RshN b2 A2 n2 cc2 z.natAbs p HP.out hz W3 HM0).mono ?_
  rintro e W4 ⟨v4, rfl, hv4, hk4⟩
  obtain ⟨b4, A4, n4, cc4, rfl⟩ := hv4.two
  go_wp2_with fail
  have hkA : Kept W4 (W4.alloc (.cells #[.bool b4, .slice A4 n4 cc4] 24)) := (Below.refl _ _).alloc (Nat.le_refl _) _
  have BK0 := Blk.new W4 24 #[.bool b4, .slice A4 n4 cc4]
  have HK0 := hv4.toSI.below hkA
  have HM1 := (HMM.out.below hk4).below hkA
  have BM1 := (BM0.below hk4).below hkA
  have B14 := (B13.below hk4).below hkA
  have hgk : gm < W4.heap.size := Nat.lt_of_lt_of_le BM0.lt hk4.size
  have HK5 : Kept w (W4.alloc (.cells #[.bool b4, .slice A4 n4 cc4] 24)) := (HK3.trans hk4).trans hkA
  obtain ⟨gk, hgk2⟩ : ∃ gk, gk = W4.heap.size := ⟨_, rfl⟩
  rw [← hgk2] at BK0 hgk ⊢
  generalize (W4.alloc (.cells #[.bool b4, .slice A4 n4 cc4] 24)) = W at *
  clear hkA hv4 hk4 hgk2 HMM HM0 BM0 B13 HK3
  have HLS : Hid (∀ X, SI X (.agg #[.bool b4, .slice A4 n4 cc4]) ((z.natAbs / 2 ^ p : Nat) : Int) → Calls Try.prog 16 #[.agg #[.bool b4, .slice A4 n4 cc4], .int .i64 ((p : Nat) : Int)] X (RetSI X ((z.natAbs / 2 ^ p * 2 ^ p : Nat) : Int))) :=
    Lib.hid fun X h => LshN b4 A4 n4 cc4 _ p HP.out (Nat.lt_of_le_of_lt (Nat.div_le_self _ _) hzc) X h
  have hsub : ((z.natAbs : Nat) : Int) - ((z.natAbs / 2 ^ p * 2 ^ p : Nat) : Int) = ((z.natAbs % 2 ^ p : Nat) : Int) := by
    have h1 := Nat.div_add_mod z.natAbs (2 ^ p)
    rw [Nat.mul_comm] at h1
    omega
  have HSU : Hid (∀ (X : World) (b : Bool) (A : Option Addr) (n c : Nat), SI X (.agg #[.bool b2, .slice A2 n2 cc2]) ((z.natAbs : Nat) : Int) → SI X (.agg #[.bool b, .slice A n c]) ((z.natAbs / 2 ^ p * 2 ^ p : Nat) : Int) → Calls Try.prog 15 #[.agg #[.bool b2, .slice A2 n2 cc2], .agg #[.bool b, .slice A n c]] X (RetSI X ((z.natAbs % 2 ^ p : Nat) : Int))) := Lib.hid fun X b A n c h1 h2 => by
    have hd : z.natAbs / 2 ^ p * 2 ^ p < Num.Cap := Nat.lt_of_le_of_lt (Nat.div_mul_le_self _ _) hzc
    have := sSub_any b2 A2 n2 cc2 _ b A n c _ (by rw [Int.natAbs_natCast]; exact hzc) (by rw [Int.natAbs_natCast]; exact hd) X h1 h2
    rwa [hsub] at this
  have B1 := Lib.hid B14
  have BM := Lib.hid BM1
  have BK := Lib.hid BK0
  have HMM := Lib.hid HM1
  have HKK := Lib.hid HK0
  have kwd : Kept W W.drew := by go_grown
  have zwd : W.heap.size ≤ W.drew.heap.size := Nat.le_refl _
  have lgm := BM1.lt
  have lgk := BK0.lt
  have lgw := B14.lt
  have HW5 := Lib.hid HK5
  clear B14 BM1 BK0 HM1 HK0 HK5 hsub
  refine wp_cut (R := fun a' we => ∃ (gl : Nat) (b5 : Bool) (A5 : Option Addr) (n5 cc5 : Nat) (b6 : Bool) (A6 : Option Addr) (n6 cc6 : Nat), a' = ⟨#[.agg #[.bool b, .slice A l.length c], .pointer (some ⟨w.heap.size, 0, none⟩), .float .f64 0, .int .i64 ((N : Nat) : Int), .int .i64 ((p : Nat) : Int), .pointer (some ⟨gm, 0, none⟩), .pointer (some ⟨gk, 0, none⟩), .pointer (some ⟨gl, 0, none⟩), undef, undef, .agg #[.bool b, .slice A l.length c], .int .i64 ((N : Nat) : Int), .int .i64 ((N : Nat) : Int), .int .i64 ((N : Int) - 53), .int .i64 ((p : Nat) : Int), .pointer (some ⟨w.heap.size, 1, none⟩), .slice A l.length c, .agg #[.bool b2, .slice A2 n2 cc2], .agg #[.bool b2, .slice A2 n2 cc2], .int .i64 ((p : Nat) : Int), .agg #[.bool b4, .slice A4 n4 cc4], .agg #[.bool b2, .slice A2 n2 cc2], .agg #[.bool b4, .slice A4 n4 cc4], .int .i64 ((p : Nat) : Int), .agg #[.bool b5, .slice A5 n5 cc5], .agg #[.bool b6, .slice A6 n6 cc6], undef, undef, undef, undef, undef, undef, undef, undef, undef, undef, undef, undef, undef, undef, undef, undef, undef, undef, undef, undef, undef, undef, undef, undef, undef, undef, undef, undef, undef, undef, undef, undef, undef, undef, undef, undef, undef, undef, undef, undef, undef, undef, undef, undef, undef, undef, undef, undef, undef, undef, undef], []⟩ ∧ gl ≠ gk ∧ Kept w we ∧ Blk we w.heap.size 24 #[.bool b, .slice A l.length c] ∧ Blk we gk 24 #[.bool b4, .slice A4 n4 cc4] ∧ Blk we gl 24 #[.bool b6, .slice A6 n6 cc6] ∧ w.heap.size < gk ∧ SI we (.agg #[.bool b4, .slice A4 n4 cc4]) ((z.natAbs / 2 ^ p : Nat) : Int) ∧ SI we (.agg #[.bool b6, .slice A6 n6 cc6]) ((z.natAbs % 2 ^ p : Nat) : Int)) ?_ ?_
  rotate_left
  · rintro _ we ⟨gl, b5, A5, n5, cc5, b6, A6, n6, cc6, rfl, hne1, hKe, B1e, BKe, BLe, hgk2, HKe, HVe⟩
    have aK := ‹∀ (a : Act) (w : World), Code.wp Try.prog _ _ a w → _›
    refine aK _ _ ?_
    clear aK
    refine wp_seq ?_
    refine wp_cut (R := fun a' wf => ∃ (u8 u26 u27 u28 u29 u30 u31 u32 u33 u34 u35 u36 u37 u38 u39 u40 u41 u42 u43 u44 u45 u46 u47 : Value) (b7 : Bool) (A7 : Option Addr) (n7 cc7 : Nat), a' = ⟨#[.agg #[.bool b, .slice A l.length c], .pointer (some ⟨w.heap.size, 0, none⟩), .float .f64 0, .int .i64 ((N : Nat) : Int), .int .i64 ((p : Nat) : Int), .pointer (some ⟨gm, 0, none⟩), .pointer (some ⟨gk, 0, none⟩), .pointer (some ⟨gl, 0, none⟩), u8, undef, .agg #[.bool b, .slice A l.length c], .int .i64 ((N : Nat) : Int), .int .i64 ((N : Nat) : Int), .int .i64 ((N : Int) - 53), .int .i64 ((p : Nat) : Int), .pointer (some ⟨w.heap.size, 1, none⟩), .slice A l.length c, .agg #[.bool b2, .slice A2 n2 cc2], .agg #[.bool b2, .slice A2 n2 cc2], .int .i64 ((p : Nat) : Int), .agg #[.bool b4, .slice A4 n4 cc4], .agg #[.bool b2, .slice A2 n2 cc2], .agg #[.bool b4, .slice A4 n4 cc4], .int .i64 ((p : Nat) : Int), .agg #[.bool b5, .slice A5 n5 cc5], .agg #[.bool b6, .slice A6 n6 cc6], u26, u27, u28, u29, u30, u31, u32, u33, u34, u35, u36, u37, u38, u39, u40, u41, u42, u43, u44, u45, u46, u47, undef, undef, undef, undef, undef, undef, undef, undef, undef, undef, undef, undef, undef, undef, undef, undef, undef, undef, undef, undef, undef, undef, undef, undef, undef, undef, undef, undef, undef], []⟩ ∧ Kept w wf ∧ Blk wf w.heap.size 24 #[.bool b, .slice A l.length c] ∧ Blk wf gk 24 #[.bool b7, .slice A7 n7 cc7] ∧ SI wf (.agg #[.bool b7, .slice A7 n7 cc7]) ((rnd z.natAbs p : Nat) : Int)) ?_ ?_
    · by_cases hp0 : p = 0
      · subst hp0
        go_wp2_with fail
        refine ⟨_, _, _, _, _, _, _, _, _, _, _, _, _, _, _, _, _, _, _, _, _, _, _, b4, A4, n4, cc4, rfl, hKe, B1e, BKe, ?_⟩
        rw [rnd_zero]
        simpa using HKe
      · have hp1 : (0 : Int) < (p : Int) := by omega
        have HPL := Lib.hid (fun X => PowerN (p - 1) (by have := HP.out; omega) X)
        obtain ⟨pm, hpm⟩ : ∃ pm, pm = p - 1 := ⟨_, rfl⟩
        rw [← hpm] at HPL
        have hwp : wrap64 ((p : Int) - 1) = (pm : Int) := by have := HP.out; unfold wrap64; omega
        have hwp2 : IntKind.i64.wrap ((p : Int) - 1) = (pm : Int) := by rw [IntKind.wrap_i64]; have := HP.out; omega
        have HPM := Lib.hid hpm
        clear hpm
        have BLh := Lib.hid BLe
        have HVh := Lib.hid HVe
        have hS0 : Kept we we.drew := by go_grown
        go_wp2_with fail
        refine wp_region_lastL _ _ _ (by simp only [List.dropLast]; rfl) (by simp only [List.getLast?_cons_cons, List.getLast?_singleton]; rfl) (fun X : World => Kept we X) (by kernel_rfl) (by kernel_rfl) (hS0) (fun hHeld => ?_)
        generalize we.drew = wd at *
        clear hHeld
        refine wpAnyH_take (i := 0) (oi := ?o0x100) (v := (.agg #[.bool b6, .slice A6 n6 cc6])) ?hi0x100 (by kernel_rfl) (by kernel_rfl) (by kernel_rfl) ?hQ0x100 ?hy0x100 hS0 ?rest0x100
        case hi0x100 => (simp only [List.getElem?_toArray, List.getElem?_cons_zero]; rfl)
        case hQ0x100 => exact fun _ _ _ h => h
        case hy0x100 => exact yields_row (by rfl) 24 (.tmp 7) (by rfl) gl (by rfl) _ _ _ (fun X hX => BLh.out.below hX) Try.underlying24 (by rfl) info_SI
        try simp only [Act.put, List.setIfInBounds_toArray, List.set_cons_zero, List.set_cons_succ]
        refine wpAnyH_take (i := 1) (oi := ?o1x101) (v := ?v1x101) ?hi1x101 (by kernel_rfl) (by kernel_rfl) (by kernel_rfl) ?hQ1x101 ?hy1x101 hS0 ?rest1x101
        case hi1x101 => (simp only [List.getElem?_toArray, List.getElem?_cons_succ, List.getElem?_cons_zero]; rfl)
        case hQ1x101 => exact fun _ _ _ h => h
        case hy1x101 => (refine Or.inl ⟨by rfl, ?_⟩; intro W hSw; (try dsimp only at hSw); go_simp; (try with_reducible rfl))
        try simp only [Act.put, List.setIfInBounds_toArray, List.set_cons_zero, List.set_cons_succ]
        refine wpAnyH_take (i := 2) (oi := ?o2x102) (v := ?v2x102) ?hi2x102 (by kernel_rfl) (by kernel_rfl) (by kernel_rfl) ?hQ2x102 ?hy2x102 hS0 ?rest2x102
        case hi2x102 => (simp only [List.getElem?_toArray, List.getElem?_cons_succ, List.getElem?_cons_zero]; rfl)
        case hQ2x102 => exact fun _ _ _ h => h
        case hy2x102 => (refine Or.inl ⟨by rfl, ?_⟩; intro W hSw; (try dsimp only at hSw); go_simp; (try with_reducible rfl))
        try simp only [Act.put, List.setIfInBounds_toArray, List.set_cons_zero, List.set_cons_succ]
        refine wpAnyH_ready (rs := [3]) (by kernel_rfl) (by simp) ?_
        refine (AllReadyH.cons rfl (fun K hK => ?_) AllReadyH.nil)
        go_simp
        (with_reducible refine Calls.mono (HPL.out _) ?_)
        rintro e wp ⟨v8, rfl, hv8, hk8⟩
        have hS1 : Kept we wp := hS0.trans hk8
        obtain ⟨b8, A8, n8, cc8, rfl⟩ := hv8.two
        have HV8 := Lib.hid hv8.toSI
        clear hv8
        refine hK.out _ _ ?_ (fun hHeld => ?_)
        · (exact hS1)
        clear hK K
        try simp only [Act.put, List.setIfInBounds_toArray, List.set_cons_zero, List.set_cons_succ]
        refine wpAnyH_ready (rs := [4]) (by kernel_rfl) (by simp) ?_
        refine (AllReadyH.cons rfl (fun K hK => ?_) AllReadyH.nil)
        go_simp
        (with_reducible refine Calls.mono (sCmp_any b6 A6 n6 cc6 _ b8 A8 n8 cc8 _ _ (HVh.out.below hS1) HV8.out) ?_)
        rintro e wc ⟨rfl, hk9⟩
        have hS2 : Kept we wc := hS1.trans hk9
        refine hK.out _ _ ?_ (fun hHeld => ?_)
        · (exact hS2)
        clear hK K
        try simp only [Act.put, List.setIfInBounds_toArray, List.set_cons_zero, List.set_cons_succ]
        refine wpAnyH_done (by kernel_rfl) ?_ _
        simp only [lastQ]
        clear hwp hwp2
        have BKc := BKe.below hS2
        have kc1 : wc.cell? ⟨gk, 1, none⟩ = some (.slice A4 n4 cc4) := BKc.cell 1
        rcases Int.lt_trichotomy ((z.natAbs % 2 ^ p : Nat) : Int) ((2 ^ pm : Nat) : Int) with hlt | heq | hgt
        · have hc : cmpI ((z.natAbs % 2 ^ p : Nat) : Int) ((2 ^ pm : Nat) : Int) = -1 := by unfold cmpI; rw [if_pos hlt]
          rw [hc]
          clear hc
          go_wp2_with fail
          refine ⟨_, _, _, _, _, _, _, _, _, _, _, _, _, _, _, _, _, _, _, _, _, _, _, b4, A4, n4, cc4, rfl, hKe.trans hS2, B1e.below hS2, BKc, ?_⟩
          have hr : rnd z.natAbs p = z.natAbs / 2 ^ p := by
            have e : p = pm + 1 := by have := HPM.out; omega
            rw [e] at hlt ⊢
            exact rnd_lt _ _ (Int.ofNat_lt.1 hlt)
          rw [hr]
          exact HKe.below hS2
        · have hc : cmpI ((z.natAbs % 2 ^ p : Nat) : Int) ((2 ^ pm : Nat) : Int) = 0 := by unfold cmpI; rw [if_neg (by omega), if_pos heq]
          rw [hc]
          clear hc
          have hr : rnd z.natAbs p = z.natAbs / 2 ^ p + (if z.natAbs / 2 ^ p % 2 = 1 then 1 else 0) := by
            have e : p = pm + 1 := by have := HPM.out; omega
            rw [e] at heq ⊢
            exact rnd_eq _ _ (Int.ofNat_inj.1 heq)
          obtain ⟨hb4, l4, hn4, s4, u4⟩ := HKe.parts
          subst hn4
          obtain ⟨d, hd⟩ : ∃ d, d = z.natAbs / 2 ^ p % 2 := ⟨_, rfl⟩
          have CB : Calls Try.prog 19 #[.slice A4 l4.length cc4, .int .i64 0] wc fun e w' => e = .returned (.int .i64 ((d : Nat) : Int)) ∧ wc = w' := by
            have := specbit_any A4 cc4 l4 u4.lt 0 (by omega) wc (s4.below hS2)
            rw [show beN l4 = z.natAbs / 2 ^ p from u4.num, Nat.pow_zero, Nat.div_one, ← hd] at this
            exact this
          rw [← hd] at hr
          have HR := Lib.hid hr
          have hd2 : d = 0 ∨ d = 1 := by omega
          clear hr hd hb4 s4 u4 heq
          go_wp2_with fail
          refine CB.mono ?_
          rintro e w1 ⟨rfl, rfl⟩
          rcases hd2 with rfl | rfl
          · go_wp2_with fail
            refine ⟨_, _, _, _, _, _, _, _, _, _, _, _, _, _, _, _, _, _, _, _, _, _, _, b4, A4, l4.length, cc4, rfl, hKe.trans hS2, B1e.below hS2, BKc, ?_⟩
            rw [HR.out]
            exact HKe.below hS2
          · have hr : rnd z.natAbs p = z.natAbs / 2 ^ p + 1 := HR.out
            clear HR CB
            go_wp2_with fail
            have HR := Lib.hid hr
            have BKh := Lib.hid BKc
            have B1h := Lib.hid (B1e.below hS2)
            have HKh := Lib.hid (HKe.below hS2)
            have hgl := BKe.lt
            have hg2 := hgk2
            have hKwc := Lib.hid (hKe.trans hS2)
            have hqc : z.natAbs / 2 ^ p < Num.Cap := Nat.lt_of_le_of_lt (Nat.div_le_self _ _) hzc
            clear hr BKc kc1
            have hT0 : Kept wc wc.drew := by go_grown
            refine wp_region_lastL _ _ _ (by simp only [List.dropLast]; rfl) (by simp only [List.getLast?_cons_cons, List.getLast?_singleton]; rfl) (fun X : World => Kept wc X) (by kernel_rfl) (by kernel_rfl) (hT0) (fun hHeld => ?_)
            generalize wc.drew = wd9 at *
            clear hHeld
            refine wpAnyH_take (i := 0) (oi := ?o0x103) (v := (.agg #[.bool b4, .slice A4 l4.length cc4])) ?hi0x103 (by kernel_rfl) (by kernel_rfl) (by kernel_rfl) ?hQ0x103 ?hy0x103 hT0 ?rest0x103
            case hi0x103 => (simp only [List.getElem?_toArray, List.getElem?_cons_zero]; rfl)
            case hQ0x103 => exact fun _ _ _ h => h
            case hy0x103 => exact yields_row (by rfl) 24 (.tmp 6) (by rfl) gk (by rfl) _ _ _ (fun X hX => BKh.out.below hX) Try.underlying24 (by rfl) info_SI
            try simp only [Act.put, List.setIfInBounds_toArray, List.set_cons_zero, List.set_cons_succ]
            refine wpAnyH_ready (rs := [1]) (by kernel_rfl) (by simp) ?_
            refine (AllReadyH.cons rfl (fun K hK => ?_) AllReadyH.nil)
            go_simp
            (with_reducible refine Calls.mono (Small_any 1 (by omega) (by omega) _) ?_)
            rintro e w9 ⟨v9, rfl, hv9, hk9⟩
            have hT1 : Kept wc w9 := hT0.trans hk9
            obtain ⟨b9, A9, n9, cc9, rfl⟩ := hv9.two
            have HV9 := Lib.hid hv9.toSI
            clear hv9
            refine hK.out _ _ ?_ (fun hHeld => ?_)
            · (exact hT1)
            clear hK K
            try simp only [Act.put, List.setIfInBounds_toArray, List.set_cons_zero, List.set_cons_succ]
            refine wpAnyH_ready (rs := [2]) (by kernel_rfl) (by simp) ?_
            refine (AllReadyH.cons rfl (fun K hK => ?_) AllReadyH.nil)
            go_simp
            (with_reducible refine Calls.mono (sAdd_any b4 A4 l4.length cc4 _ b9 A9 n9 cc9 _ (by rw [Int.natAbs_natCast]; exact hqc) one_cap _ (HKh.out.below hT1) HV9.out) ?_)
            rintro e wt ⟨v10, rfl, hv10, hk10⟩
            have hT2 : Kept wc wt := hT1.trans hk10
            obtain ⟨b10, A10, n10, cc10, rfl⟩ := hv10.two
            have HV10 := Lib.hid (hv10.mono (B' := wc.heap.size) hT1.size)
            clear hv10
            refine hK.out _ _ ?_ (fun hHeld => ?_)
            · (exact hT2)
            clear hK K
            try simp only [Act.put, List.setIfInBounds_toArray, List.set_cons_zero, List.set_cons_succ]
            refine wpAnyH_done (by kernel_rfl) ?_ _
            simp only [lastQ]
            refine wp_store_row 24 (.tmp 6) (.tmp 47) rfl gk #[.bool b10, .slice A10 n10 cc10] (by rfl) (by rfl) 24 _ (BKh.out.below hT2) info_SI rfl (by simp [Value.oneCell']) ?_
            have hzc9 := hS2.size
            have HV11 := (HV10.out.setRowNe (k := gk) (fun h bl off e => by have := HV10.out.blocks h bl off e; omega) #[.bool b10, .slice A10 n10 cc10]).toSI
            refine ⟨_, _, _, _, _, _, _, _, _, _, _, _, _, _, _, _, _, _, _, _, _, _, _, b10, A10, n10, cc10, rfl, below_setRow (hKwc.out.trans hT2) (by omega) _, (B1h.out.below hT2).rowFar (by omega), setRow_heap _ _ _ _ _ _ (BKh.out.below hT2), ?_⟩
            rw [HR.out]
            exact HV11
        · have hc : cmpI ((z.natAbs % 2 ^ p : Nat) : Int) ((2 ^ pm : Nat) : Int) = 1 := by unfold cmpI; rw [if_neg (by omega), if_neg (by omega)]
          rw [hc]
          clear hc
          have hr : rnd z.natAbs p = z.natAbs / 2 ^ p + 1 := by
            have e : p = pm + 1 := by have := HPM.out; omega
            rw [e] at hgt ⊢
            exact rnd_gt _ _ (Int.ofNat_lt.1 hgt)
          go_wp2_with fail
          have HR := Lib.hid hr
          have BKh := Lib.hid BKc
          have B1h := Lib.hid (B1e.below hS2)
          have HKh := Lib.hid (HKe.below hS2)
          have hgl := BKe.lt
          have hg2 := hgk2
          have hKwc := Lib.hid (hKe.trans hS2)
          have hqc : z.natAbs / 2 ^ p < Num.Cap := Nat.lt_of_le_of_lt (Nat.div_le_self _ _) hzc
          clear hr BKc kc1
          have hT0 : Kept wc wc.drew := by go_grown
          refine wp_region_lastL _ _ _ (by simp only [List.dropLast]; rfl) (by simp only [List.getLast?_cons_cons, List.getLast?_singleton]; rfl) (fun X : World => Kept wc X) (by kernel_rfl) (by kernel_rfl) (hT0) (fun hHeld => ?_)
          generalize wc.drew = wd9 at *
          clear hHeld
          refine wpAnyH_take (i := 0) (oi := ?o0x104) (v := (.agg #[.bool b4, .slice A4 n4 cc4])) ?hi0x104 (by kernel_rfl) (by kernel_rfl) (by kernel_rfl) ?hQ0x104 ?hy0x104 hT0 ?rest0x104
          case hi0x104 => (simp only [List.getElem?_toArray, List.getElem?_cons_zero]; rfl)
          case hQ0x104 => exact fun _ _ _ h => h
          case hy0x104 => exact yields_row (by rfl) 24 (.tmp 6) (by rfl) gk (by rfl) _ _ _ (fun X hX => BKh.out.below hX) Try.underlying24 (by rfl) info_SI
          try simp only [Act.put, List.setIfInBounds_toArray, List.set_cons_zero, List.set_cons_succ]
          refine wpAnyH_ready (rs := [1]) (by kernel_rfl) (by simp) ?_
          refine (AllReadyH.cons rfl (fun K hK => ?_) AllReadyH.nil)
          go_simp
          (with_reducible refine Calls.mono (Small_any 1 (by omega) (by omega) _) ?_)
          rintro e w9 ⟨v9, rfl, hv9, hk9⟩
          have hT1 : Kept wc w9 := hT0.trans hk9
          obtain ⟨b9, A9, n9, cc9, rfl⟩ := hv9.two
          have HV9 := Lib.hid hv9.toSI
          clear hv9
          refine hK.out _ _ ?_ (fun hHeld => ?_)
          · (exact hT1)
          clear hK K
          try simp only [Act.put, List.setIfInBounds_toArray, List.set_cons_zero, List.set_cons_succ]
          refine wpAnyH_ready (rs := [2]) (by kernel_rfl) (by simp) ?_
          refine (AllReadyH.cons rfl (fun K hK => ?_) AllReadyH.nil)
          go_simp
          (with_reducible refine Calls.mono (sAdd_any b4 A4 n4 cc4 _ b9 A9 n9 cc9 _ (by rw [Int.natAbs_natCast]; exact hqc) one_cap _ (HKh.out.below hT1) HV9.out) ?_)
          rintro e wt ⟨v10, rfl, hv10, hk10⟩
          have hT2 : Kept wc wt := hT1.trans hk10
          obtain ⟨b10, A10, n10, cc10, rfl⟩ := hv10.two
          have HV10 := Lib.hid (hv10.mono (B' := wc.heap.size) hT1.size)
          clear hv10
          refine hK.out _ _ ?_ (fun hHeld => ?_)
          · (exact hT2)
          clear hK K
          try simp only [Act.put, List.setIfInBounds_toArray, List.set_cons_zero, List.set_cons_succ]
          refine wpAnyH_done (by kernel_rfl) ?_ _
          simp only [lastQ]
          refine wp_store_row 24 (.tmp 6) (.tmp 47) rfl gk #[.bool b10, .slice A10 n10 cc10] (by rfl) (by rfl) 24 _ (BKh.out.below hT2) info_SI rfl (by simp [Value.oneCell']) ?_
          have hzc9 := hS2.size
          have HV11 := (HV10.out.setRowNe (k := gk) (fun h bl off e => by have := HV10.out.blocks h bl off e; omega) #[.bool b10, .slice A10 n10 cc10]).toSI
          refine ⟨_, _, _, _, _, _, _, _, _, _, _, _, _, _, _, _, _, _, _, _, _, _, _, b10, A10, n10, cc10, rfl, below_setRow (hKwc.out.trans hT2) (by omega) _, (B1h.out.below hT2).rowFar (by omega), setRow_heap _ _ _ _ _ _ (BKh.out.below hT2), ?_⟩
          rw [HR.out]
          exact HV11
    rintro _ wf ⟨u8, u26, u27, u28, u29, u30, u31, u32, u33, u34, u35, u36, u37, u38, u39, u40, u41, u42, u43, u44, u45, u46, u47, b7, A7, n7, cc7, rfl, hKf, B1f, BKf, HV7⟩
    have hgk3 := hgk2
    obtain ⟨k, hk⟩ : ∃ k, k = rnd z.natAbs p := ⟨_, rfl⟩
    have hst := near_step z.natAbs N p k HNb.out (by rw [HNb.out]; exact HBL.out) Hp.out hk
    rw [← hk] at HV7
    have hkc : k < 256 ^ 200 := by
      rw [hk]
      exact rnd_cap _ _ hz
    clear hk
    have hkc2 := cap_200 hkc
    have CLk := Lib.hid (fun W h => Length_any b7 A7 n7 cc7 ((k : Nat) : Int) hkc2 W h)
    have HV7h := Lib.hid HV7
    have hkb : blen k ≤ 1600 := blen_le hkc
    have HKC := Lib.hid hkc
    obtain ⟨L, hL⟩ : ∃ L, L = blen k := ⟨_, rfl⟩
    rw [show ((k : Nat) : Int).natAbs = k from rfl, ← hL] at CLk
    rw [← hL] at hst hkb
    have HLh := Lib.hid hL
    have hkbI : (L : Int) ≤ 1600 := by omega
    have HKB := Lib.hid hkb
    clear hL HV7 hkc hkc2 hkb hkbI
    refine wp_seq ?_
    refine wp_cut (R := fun a' wg => ∃ (u8 u26 u27 u28 u29 u30 u31 u32 u33 u34 u35 u36 u37 u38 u39 u40 u41 u42 u43 u44 u45 u46 u47 u48 u49 u50 u51 u52 u53 u54 : Value) (p1 k1 : Nat) (b8 : Bool) (A8 : Option Addr) (n8 cc8 : Nat), a' = ⟨#[.agg #[.bool b, .slice A l.length c], .pointer (some ⟨w.heap.size, 0, none⟩), .float .f64 0, .int .i64 ((N : Nat) : Int), .int .i64 ((p1 : Nat) : Int), .pointer (some ⟨gm, 0, none⟩), .pointer (some ⟨gk, 0, none⟩), .pointer (some ⟨gl, 0, none⟩), u8, undef, .agg #[.bool b, .slice A l.length c], .int .i64 ((N : Nat) : Int), .int .i64 ((N : Nat) : Int), .int .i64 ((N : Int) - 53), .int .i64 ((p : Nat) : Int), .pointer (some ⟨w.heap.size, 1, none⟩), .slice A l.length c, .agg #[.bool b2, .slice A2 n2 cc2], .agg #[.bool b2, .slice A2 n2 cc2], .int .i64 ((p : Nat) : Int), .agg #[.bool b4, .slice A4 n4 cc4], .agg #[.bool b2, .slice A2 n2 cc2], .agg #[.bool b4, .slice A4 n4 cc4], .int .i64 ((p : Nat) : Int), .agg #[.bool b5, .slice A5 n5 cc5], .agg #[.bool b6, .slice A6 n6 cc6], u26, u27, u28, u29, u30, u31, u32, u33, u34, u35, u36, u37, u38, u39, u40, u41, u42, u43, u44, u45, u46, u47, u48, u49, u50, u51, u52, u53, u54, undef, undef, undef, undef, undef, undef, undef, undef, undef, undef, undef, undef, undef, undef, undef, undef, undef, undef, undef, undef, undef, undef], []⟩ ∧ Kept w wg ∧ Blk wg w.heap.size 24 #[.bool b, .slice A l.length c] ∧ Blk wg gk 24 #[.bool b8, .slice A8 n8 cc8] ∧ SI wg (.agg #[.bool b8, .slice A8 n8 cc8]) ((k1 : Nat) : Int) ∧ Hid (Lw z.natAbs p1 k1)) ?_ ?_
    · have f0 : wf.cell? ⟨gk, 0, none⟩ = some (.bool b7) := BKf.cell 0
      have f1 : wf.cell? ⟨gk, 1, none⟩ = some (.slice A7 n7 cc7) := BKf.cell 1
      rcases hst with ⟨hb1, hlw⟩ | ⟨hb1, hlw⟩
      · have hgt : ¬ (53 : Int) < (L : Int) := by omega
        have HLW := Lib.hid hlw
        clear hlw hb1
        go_wp2_with fail
        refine (CLk.out wf HV7h.out).mono ?_
        rintro e wx ⟨rfl, hkx⟩
        go_wp2_with fail
        exact ⟨_, _, _, _, _, _, _, _, _, _, _, _, _, _, _, _, _, _, _, _, _, _, _, _, _, _, _, _, _, _, p, k, b7, A7, n7, cc7, rfl, hKf.trans hkx, B1f.below hkx, BKf.below hkx, HV7h.out.below hkx, HLW⟩
      · have hgt : (53 : Int) < (L : Int) := by omega
        have HLW := Lib.hid hlw
        have hwp : wrap64 ((p : Int) + 1) = ((p + 1 : Nat) : Int) := by have := HP.out; unfold wrap64; omega
        have HRS : Hid (∀ W, SI W (.agg #[.bool b7, .slice A7 n7 cc7]) ((k : Nat) : Int) → Calls Try.prog 14 #[.agg #[.bool b7, .slice A7 n7 cc7], .int .i64 1] W (RetSI W ((k / 2 : Nat) : Int))) := Lib.hid fun W h => by
          have := RshN b7 A7 n7 cc7 k 1 (by omega) HKC.out W h
          rwa [Nat.pow_one] at this
        clear hlw hb1
        go_wp2_with fail
        refine (CLk.out wf HV7h.out).mono ?_
        rintro e wx ⟨rfl, hkx⟩
        have f0 : wx.cell? ⟨gk, 0, none⟩ = some (.bool b7) := (BKf.below hkx).cell 0
        have f1 : wx.cell? ⟨gk, 1, none⟩ = some (.slice A7 n7 cc7) := (BKf.below hkx).cell 1
        go_wp2_with fail
        refine (HRS.out wx (HV7h.out.below hkx)).mono ?_
        rintro e wy ⟨v9, rfl, hv9, hky⟩
        have hkxy := hkx.trans hky
        obtain ⟨b9, A9, n9, cc9, rfl⟩ := hv9.two
        have BKy := Lib.hid (BKf.below hkxy)
        have B1y := Lib.hid (B1f.below hkxy)
        have HV9 := Lib.hid hv9
        have hgx : gk < wx.heap.size := Nat.lt_of_lt_of_le BKf.lt hkx.size
        clear hv9 f0 f1
        go_wp2_with (refine wpList_store_row rfl 24 (.tmp 6) (.tmp 52) rfl gk _ rfl rfl 24 _ BKy.out info_SI rfl (by simp [Value.oneCell']) ?_)
        have HV10 := (HV9.out.setRowNe (k := gk) (fun h bl off e => by have := HV9.out.blocks h bl off e; omega) #[.bool b9, .slice A9 n9 cc9]).toSI
        rw [hwp]
        exact ⟨_, _, _, _, _, _, _, _, _, _, _, _, _, _, _, _, _, _, _, _, _, _, _, _, _, _, _, _, _, _, p + 1, k / 2, b9, A9, n9, cc9, rfl, below_setRow (hKf.trans hkxy) (by omega) _, B1y.out.rowFar (by omega), setRow_heap _ _ _ _ _ _ BKy.out, HV10, HLW⟩
    rintro _ wg ⟨u8, u26, u27, u28, u29, u30, u31, u32, u33, u34, u35, u36, u37, u38, u39, u40, u41, u42, u43, u44, u45, u46, u47, u48, u49, u50, u51, u52, u53, u54, p1, k1, b8, A8, n8, cc8, rfl, hKg, B1g, BKg, HV8, HLW⟩
    have hplw := HLW.out.p_le
    have hklw := HLW.out.lt
    have hkc : k1 < Num.Cap := cap_200 (Nat.lt_trans hklw (by decide))
    have CLk := Lib.hid (fun W h => Length_any b8 A8 n8 cc8 ((k1 : Nat) : Int) hkc W h)
    have CLo := Lib.hid (fun W h => low_any b8 A8 n8 cc8 ((k1 : Nat) : Int) W h)
    have hmod : ((k1 : Nat) : Int).natAbs % 18446744073709551616 = k1 := by rw [show ((k1 : Nat) : Int).natAbs = k1 from rfl]; exact Nat.mod_eq_of_lt (by omega)
    rw [hmod] at CLo
    rw [show ((k1 : Nat) : Int).natAbs = k1 from rfl] at CLk
    have hb53 : blen k1 ≤ 53 := blen_lt (by rw [two53]; exact hklw)
    obtain ⟨L1, hL1⟩ : ∃ L1, L1 = blen k1 := ⟨_, rfl⟩
    rw [← hL1] at CLk hb53
    have HL1 := Lib.hid hL1
    clear hL1 hmod hkc
    have hws : wrap64 ((L1 : Int) + (p1 : Int)) = (L1 : Int) + (p1 : Int) := by unfold wrap64; omega
    clear hb53 hplw hklw
    have f0 : wg.cell? ⟨gk, 0, none⟩ = some (.bool b8) := BKg.cell 0
    have f1 : wg.cell? ⟨gk, 1, none⟩ = some (.slice A8 n8 cc8) := BKg.cell 1
    have HV8h := Lib.hid HV8
    clear HV8
    go_wp2_with fail
    refine (CLk.out wg HV8h.out).mono ?_
    rintro e wx ⟨rfl, hkx⟩
    have f0 : wx.cell? ⟨gk, 0, none⟩ = some (.bool b8) := (BKg.below hkx).cell 0
    have f1 : wx.cell? ⟨gk, 1, none⟩ = some (.slice A8 n8 cc8) := (BKg.below hkx).cell 1
    have f2 : wx.cell? ⟨w.heap.size, 0, none⟩ = some (.bool b) := (B1g.below hkx).cell 0
    by_cases hov : (1024 : Int) < (L1 : Int) + (p1 : Int)
    · have hres := HLW.out.over (by rw [← HL1.out]; omega) b
      rw [HB.out] at hres
      have HRES := Lib.hid hres
      clear hres
      go_wp2_with fail
      refine (inf_any b wx).mono ?_
      rintro e wy ⟨rfl, rfl⟩
      go_wp2_with fail
      go_ret
      refine ⟨?_, hKg.trans hkx⟩
      rw [HRES.out, HB.out]
      rfl
    · have hres := HLW.out.done (by rw [← HL1.out]; omega)
      have HRES := Lib.hid hres
      clear hres
      go_wp2_with fail
      refine (CLo.out wx (HV8h.out.below hkx)).mono ?_
      rintro e wy ⟨rfl, hky⟩
      have f3 : wy.cell? ⟨w.heap.size, 0, none⟩ = some (.bool b) := (B1g.below (hkx.trans hky)).cell 0
      have hsh := fun j => HLW.out.step (j := j) (by rw [← HL1.out]; omega)
      have HSH := Lib.hid hsh
      have e0 : floatOfInt .f64 ((k1 : Nat) : Int) = dbl k1 0 := dbl_zero k1 HLW.out.lt
      have HK9 := Lib.hid (hKg.trans (hkx.trans hky))
      have HP1 := Lib.hid HLW.out.p_le
      clear hsh hov f0 f1 f2 CLk CLo HV8h hkx hky
      go_wp2_with fail
      go_loop [4, 9] (fun iv fv => ∃ i j : Nat, iv = .int .i64 ((i : Nat) : Int) ∧ Hid (i + j = p1) ∧ fv = .float .f64 (dbl k1 j)) (fun iv fv => (intOf iv).toNat)
      case atStart => exact ⟨p1, 0, rfl, Lib.hid rfl, rfl⟩
      case round =>
        obtain ⟨i, j, rfl, hi, rfl⟩ := hrel
        rcases i with _ | i
        · have hj : j = p1 := by have := hi.out; omega
          subst hj
          have hng := run_neg (dbl k1 j) (HRES.out false).2
          have h0 := (HRES.out false).1
          have h1 := (HRES.out true).1
          rw [word_false] at h0
          have HH0 := Lib.hid h0
          have HH1 := Lib.hid h1
          have HNG := Lib.hid hng
          clear h0 h1 hng
          by_cases hz0 : z < 0
          · have hbt : b = true := by rw [HB.out]; exact decide_eq_true hz0
            have hd : decide (z < 0) = true := decide_eq_true hz0
            subst hbt
            have hng := HNG.out
            have HD := Lib.hid hd
            clear hd hz0
            go_wp2_with fail
            go_ret
            exact ⟨by rw [HD.out, HH1.out]; rfl, HK9.out⟩
          · have hbf : b = false := by rw [HB.out]; exact decide_eq_false hz0
            have hd : decide (z < 0) = false := decide_eq_false hz0
            subst hbf
            have HD := Lib.hid hd
            clear hd hz0
            go_wp2_with fail
            go_ret
            exact ⟨by rw [HD.out, HH0.out]; rfl, HK9.out⟩
        · have hst := run_mul _ _ _ (HSH.out j (by have := hi.out; omega))
          have hwd : wrap64 (i : Int) = (i : Int) := (wrap_dec i (by have := hi.out; have := HP1.out; omega)).1
          have HI := Lib.hid (show i + (j + 1) = p1 by have := hi.out; omega)
          clear hi
          go_wp2_with fail
          rw [hwd]
          exact ⟨⟨i, j + 1, rfl, HI, rfl⟩, by simp [intOf]⟩
  refine wp_region_lastL _ _ _ (by simp only [List.dropLast]; rfl) (by simp only [List.getLast?_cons_cons, List.getLast?_singleton]; rfl) (fun X : World => Kept W X) (by kernel_rfl) (by kernel_rfl) (kwd) (fun hHeld => ?_)
  generalize W.drew = wd at *
  clear hHeld
  have hKwd := kwd
  refine wpAnyH_take (i := 0) (oi := ?o0x0) (v := (.agg #[.bool b2, .slice A2 n2 cc2])) ?hi0x0 (by kernel_rfl) (by kernel_rfl) (by kernel_rfl) ?hQ0x0 ?hy0x0 hKwd ?rest0x0
  case hi0x0 => (simp only [List.getElem?_toArray, List.getElem?_cons_zero]; rfl)
  case hQ0x0 => exact fun _ _ _ h => h
  case hy0x0 => exact yields_row (by rfl) 24 (.tmp 5) (by rfl) gm (by rfl) _ _ _ (fun X hX => BM.out.below hX) Try.underlying24 (by rfl) info_SI
  try simp only [Act.put, List.setIfInBounds_toArray, List.set_cons_zero, List.set_cons_succ]
  refine wpAnyH_take (i := 1) (oi := ?o1x1) (v := (.agg #[.bool b4, .slice A4 n4 cc4])) ?hi1x1 (by kernel_rfl) (by kernel_rfl) (by kernel_rfl) ?hQ1x1 ?hy1x1 hKwd ?rest1x1
  case hi1x1 => (simp only [List.getElem?_toArray, List.getElem?_cons_succ, List.getElem?_cons_zero]; rfl)
  case hQ1x1 => exact fun _ _ _ h => h
  case hy1x1 => exact yields_row (by rfl) 24 (.tmp 6) (by rfl) gk (by rfl) _ _ _ (fun X hX => BK.out.below hX) Try.underlying24 (by rfl) info_SI
  try simp only [Act.put, List.setIfInBounds_toArray, List.set_cons_zero, List.set_cons_succ]
  refine wpAnyH_take (i := 2) (oi := ?o2x2) (v := ?v2x2) ?hi2x2 (by kernel_rfl) (by kernel_rfl) (by kernel_rfl) ?hQ2x2 ?hy2x2 hKwd ?rest2x2
  case hi2x2 => (simp only [List.getElem?_toArray, List.getElem?_cons_succ, List.getElem?_cons_zero]; rfl)
  case hQ2x2 => exact fun _ _ _ h => h
  case hy2x2 => (refine Or.inl ⟨by rfl, ?_⟩; intro W hSw; (try dsimp only at hSw); go_simp; (try with_reducible rfl))
  try simp only [Act.put, List.setIfInBounds_toArray, List.set_cons_zero, List.set_cons_succ]
  refine wpAnyH_ready (rs := [3, 5]) (by kernel_rfl) (by simp) ?_
  refine (AllReadyH.cons rfl (fun K hK => ?_) (AllReadyH.cons rfl (fun K hK => ?_) AllReadyH.nil))
  · go_simp
    (with_reducible refine Calls.mono (HLS.out _ (HKK.out.below hKwd)) ?_)
    rintro e wl ⟨v5, rfl, hv5, hk5⟩
    have hKwl : Kept W wl := hKwd.trans hk5
    have hcwl : Kept wd wl := hk5
    have hzwl := hk5.size
    have HV5 := Lib.hid hv5.toSI
    obtain ⟨b5, A5, n5, cc5, rfl⟩ := hv5.two
    clear hv5 hk5
    refine hK.out _ _ hKwl (fun hHeld => ?_)
    clear hK K hHeld
    try simp only [Act.put, List.setIfInBounds_toArray, List.set_cons_zero, List.set_cons_succ]
    refine wpAnyH_ready (rs := [4, 5]) (by kernel_rfl) (by simp) ?_
    refine (AllReadyH.cons rfl (fun K hK => ?_) (AllReadyH.cons rfl (fun K hK => ?_) AllReadyH.nil))
    · go_simp
      (with_reducible refine Calls.mono (HSU.out _ b5 A5 n5 cc5 (HMM.out.below hKwl) HV5.out) ?_)
      rintro e ws ⟨v6, rfl, hv6, hk6⟩
      have hKws : Kept W ws := hKwl.trans hk6
      have hcws : Kept wl ws := hk6
      have hzws := hk6.size
      obtain ⟨b6, A6, n6, cc6, rfl⟩ := hv6.two
      have HNE := Lib.hid hv6.blocks
      have HV6 := Lib.hid (hv6.mono (B' := W.heap.size) (hKwl.size))
      clear hv6 hk6
      refine hK.out _ _ hKws (fun hHeld => ?_)
      clear hK K hHeld
      try simp only [Act.put, List.setIfInBounds_toArray, List.set_cons_zero, List.set_cons_succ]
      refine wpAnyH_ready (rs := [5]) (by kernel_rfl) (by simp) ?_
      refine (AllReadyH.cons rfl (fun K hK => ?_) AllReadyH.nil)
      · go_simp
        have hcwa : Kept ws (ws.alloc (.cells #[.bool false, .slice none 0 0] 24)) := (Below.refl _ _).alloc (Nat.le_refl _) _
        have hKwa := hKws.trans hcwa
        have BL := Blk.new ws 24 #[.bool false, .slice none 0 0]
        have hga : W.heap.size ≤ ws.heap.size := hKws.size
        have hzwa : ws.heap.size < (ws.alloc (.cells #[.bool false, .slice none 0 0] 24)).heap.size := by rw [World.size_alloc]; exact Nat.lt_succ_self _
        refine hK.out _ _ hKwa (fun hHeld => ?_)
        generalize (ws.alloc (.cells #[.bool false, .slice none 0 0] 24)) = wa at *
        clear hK K hHeld
        try simp only [Act.put, List.setIfInBounds_toArray, List.set_cons_zero, List.set_cons_succ]
        have HV6 := Lib.hid (HV6.out.below hcwa)
        refine wpAnyH_done (by kernel_rfl) ?_ _
        simp only [lastQ]
        refine wp_store_row 24 (.tmp 7) (.tmp 25) rfl ws.heap.size #[.bool b6, .slice A6 n6 cc6] (by rfl) (by rfl) 24 _ BL info_SI rfl (by simp [Value.oneCell']) ?_
        have lgl := BL.lt
        have hKe : Kept W (wa.setRow ws.heap.size #[.bool b6, .slice A6 n6 cc6]) := below_setRow hKwa hga _
        have BLe := Lib.hid (setRow_heap _ _ _ #[.bool b6, .slice A6 n6 cc6] _ _ BL)
        have HVe := Lib.hid ((HV6.out.setRowNe (k := ws.heap.size) (fun h bl off e => by have := HNE.out h bl off e; omega) #[.bool b6, .slice A6 n6 cc6]).toSI)
        generalize hgl : ws.heap.size = gl at *
        generalize (wa.setRow gl #[.bool b6, .slice A6 n6 cc6]) = we at *
        exact ⟨gl, b5, A5, n5, cc5, b6, A6, n6, cc6, rfl, by omega, HW5.out.trans hKe, B1.out.below hKe, BK.out.below hKe, BLe.out, by omega, HKK.out.below hKe, HVe.out⟩
    · go_simp
      have hcwa : Kept wl (wl.alloc (.cells #[.bool false, .slice none 0 0] 24)) := (Below.refl _ _).alloc (Nat.le_refl _) _
      have hKwa := hKwl.trans hcwa
      have BL := Blk.new wl 24 #[.bool false, .slice none 0 0]
      have hga : W.heap.size ≤ wl.heap.size := hKwl.size
      have hzwa : wl.heap.size < (wl.alloc (.cells #[.bool false, .slice none 0 0] 24)).heap.size := by rw [World.size_alloc]; exact Nat.lt_succ_self _
      refine hK.out _ _ hKwa (fun hHeld => ?_)
      generalize (wl.alloc (.cells #[.bool false, .slice none 0 0] 24)) = wa at *
      clear hK K hHeld
      try simp only [Act.put, List.setIfInBounds_toArray, List.set_cons_zero, List.set_cons_succ]
      have HV5 := Lib.hid (HV5.out.below hcwa)
      refine wpAnyH_ready (rs := [4]) (by kernel_rfl) (by simp) ?_
      refine (AllReadyH.cons rfl (fun K hK => ?_) AllReadyH.nil)
      · go_simp
        (with_reducible refine Calls.mono (HSU.out _ b5 A5 n5 cc5 (HMM.out.below hKwa) HV5.out) ?_)
        rintro e ws ⟨v6, rfl, hv6, hk6⟩
        have hKws : Kept W ws := hKwa.trans hk6
        have hcws : Kept wa ws := hk6
        have hzws := hk6.size
        obtain ⟨b6, A6, n6, cc6, rfl⟩ := hv6.two
        have HNE := Lib.hid hv6.blocks
        have HV6 := Lib.hid (hv6.mono (B' := W.heap.size) (hKwa.size))
        clear hv6 hk6
        refine hK.out _ _ hKws (fun hHeld => ?_)
        clear hK K hHeld
        try simp only [Act.put, List.setIfInBounds_toArray, List.set_cons_zero, List.set_cons_succ]
        have BL := BL.below hcws
        refine wpAnyH_done (by kernel_rfl) ?_ _
        simp only [lastQ]
        refine wp_store_row 24 (.tmp 7) (.tmp 25) rfl wl.heap.size #[.bool b6, .slice A6 n6 cc6] (by rfl) (by rfl) 24 _ BL info_SI rfl (by simp [Value.oneCell']) ?_
        have lgl := BL.lt
        have hKe : Kept W (ws.setRow wl.heap.size #[.bool b6, .slice A6 n6 cc6]) := below_setRow hKws hga _
        have BLe := Lib.hid (setRow_heap _ _ _ #[.bool b6, .slice A6 n6 cc6] _ _ BL)
        have HVe := Lib.hid ((HV6.out.setRowNe (k := wl.heap.size) (fun h bl off e => by have := HNE.out h bl off e; omega) #[.bool b6, .slice A6 n6 cc6]).toSI)
        generalize hgl : wl.heap.size = gl at *
        generalize (ws.setRow gl #[.bool b6, .slice A6 n6 cc6]) = we at *
        exact ⟨gl, b5, A5, n5, cc5, b6, A6, n6, cc6, rfl, by omega, HW5.out.trans hKe, B1.out.below hKe, BK.out.below hKe, BLe.out, by omega, HKK.out.below hKe, HVe.out⟩
  · go_simp
    have hcwa : Kept wd (wd.alloc (.cells #[.bool false, .slice none 0 0] 24)) := (Below.refl _ _).alloc (Nat.le_refl _) _
    have hKwa := hKwd.trans hcwa
    have BL := Blk.new wd 24 #[.bool false, .slice none 0 0]
    have hga : W.heap.size ≤ wd.heap.size := hKwd.size
    have hzwa : wd.heap.size < (wd.alloc (.cells #[.bool false, .slice none 0 0] 24)).heap.size := by rw [World.size_alloc]; exact Nat.lt_succ_self _
    refine hK.out _ _ hKwa (fun hHeld => ?_)
    generalize (wd.alloc (.cells #[.bool false, .slice none 0 0] 24)) = wa at *
    clear hK K hHeld
    try simp only [Act.put, List.setIfInBounds_toArray, List.set_cons_zero, List.set_cons_succ]
    refine wpAnyH_ready (rs := [3]) (by kernel_rfl) (by simp) ?_
    refine (AllReadyH.cons rfl (fun K hK => ?_) AllReadyH.nil)
    · go_simp
      (with_reducible refine Calls.mono (HLS.out _ (HKK.out.below hKwa)) ?_)
      rintro e wl ⟨v5, rfl, hv5, hk5⟩
      have hKwl : Kept W wl := hKwa.trans hk5
      have hcwl : Kept wa wl := hk5
      have hzwl := hk5.size
      have HV5 := Lib.hid hv5.toSI
      obtain ⟨b5, A5, n5, cc5, rfl⟩ := hv5.two
      clear hv5 hk5
      refine hK.out _ _ hKwl (fun hHeld => ?_)
      clear hK K hHeld
      try simp only [Act.put, List.setIfInBounds_toArray, List.set_cons_zero, List.set_cons_succ]
      have BL := BL.below hcwl
      refine wpAnyH_ready (rs := [4]) (by kernel_rfl) (by simp) ?_
      refine (AllReadyH.cons rfl (fun K hK => ?_) AllReadyH.nil)
      · go_simp
        (with_reducible refine Calls.mono (HSU.out _ b5 A5 n5 cc5 (HMM.out.below hKwl) HV5.out) ?_)
        rintro e ws ⟨v6, rfl, hv6, hk6⟩
        have hKws : Kept W ws := hKwl.trans hk6
        have hcws : Kept wl ws := hk6
        have hzws := hk6.size
        obtain ⟨b6, A6, n6, cc6, rfl⟩ := hv6.two
        have HNE := Lib.hid hv6.blocks
        have HV6 := Lib.hid (hv6.mono (B' := W.heap.size) (hKwl.size))
        clear hv6 hk6
        refine hK.out _ _ hKws (fun hHeld => ?_)
        clear hK K hHeld
        try simp only [Act.put, List.setIfInBounds_toArray, List.set_cons_zero, List.set_cons_succ]
        have BL := BL.below hcws
        refine wpAnyH_done (by kernel_rfl) ?_ _
        simp only [lastQ]
        refine wp_store_row 24 (.tmp 7) (.tmp 25) rfl wd.heap.size #[.bool b6, .slice A6 n6 cc6] (by rfl) (by rfl) 24 _ BL info_SI rfl (by simp [Value.oneCell']) ?_
        have lgl := BL.lt
        have hKe : Kept W (ws.setRow wd.heap.size #[.bool b6, .slice A6 n6 cc6]) := below_setRow hKws hga _
        have BLe := Lib.hid (setRow_heap _ _ _ #[.bool b6, .slice A6 n6 cc6] _ _ BL)
        have HVe := Lib.hid ((HV6.out.setRowNe (k := wd.heap.size) (fun h bl off e => by have := HNE.out h bl off e; omega) #[.bool b6, .slice A6 n6 cc6]).toSI)
        generalize hgl : wd.heap.size = gl at *
        generalize (ws.setRow gl #[.bool b6, .slice A6 n6 cc6]) = we at *
        exact ⟨gl, b5, A5, n5, cc5, b6, A6, n6, cc6, rfl, by omega, HW5.out.trans hKe, B1.out.below hKe, BK.out.below hKe, BLe.out, by omega, HKK.out.below hKe, HVe.out⟩

end Go.Proofs.Ytnheiigdgklbcaa
