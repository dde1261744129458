/- A row of words is shifted until its highest bit is set. -/
import Derived.Test.YtnheiigdgklbcaaF1
import Derived.Deep.RegionHeld3
import Derived.Laws.BitsAllLaws
namespace Go.Proofs.Ytnheiigdgklbcaa
open Go.ChangeShapes Go.WideShapes Go.ChangeAt Go.RowKit
set_option linter.unusedVariables false
theorem blen_isLen (N : Nat) : IsLen (blen N) N := fun k => ⟨blen_lt, lt_blen⟩
theorem blen_bitLen (x : Nat) (hx : x < 2 ^ 64) (h0 : x ≠ 0) : Lib.bitLen x = blen x := (IsLen.of_bitLen x hx h0).unique (blen_isLen x)
theorem B64_pow (W : Nat) : Num.B64 ^ W = 2 ^ (64 * W) := by
  rw [show Num.B64 = 2 ^ 64 by decide, ← Nat.pow_mul]
theorem blen_top (N W : Nat) (h0 : N / 2 ^ (64 * W) ≠ 0) : blen N = 64 * W + blen (N / 2 ^ (64 * W)) := by
  refine (blen_isLen N).unique (fun k => ?_)
  by_cases hk : 64 * W ≤ k
  · obtain ⟨j, rfl⟩ : ∃ j, k = 64 * W + j := ⟨k - 64 * W, by omega⟩
    have h1 := (blen_isLen (N / 2 ^ (64 * W))) j
    rw [Nat.div_lt_iff_lt_mul (Nat.two_pow_pos _), Nat.mul_comm, ← Nat.pow_add] at h1
    rw [h1]
    omega
  · have h1 : ¬ N < 2 ^ (64 * W) := fun h => h0 (Nat.div_eq_of_lt h)
    have h2 : 2 ^ k ≤ 2 ^ (64 * W) := Nat.pow_le_pow_right (by omega) (by omega)
    omega
theorem blen_w {t : Nat} (h0 : t ≠ 0) (h : t < 2 ^ 64) : 1 ≤ blen t ∧ blen t ≤ 64 := by
  refine ⟨?_, blen_lt h⟩
  unfold blen
  rw [if_neg h0]
  omega
set_option maxRecDepth 100000 in
theorem LeadingZeros_any (x : Nat) (hx : x < 18446744073709551616) (h0 : x ≠ 0) (w : World) : Calls Try.prog 75 #[.int .u64 (x : Int)] w fun e w' => e = .returned (.int .i64 ((64 - blen x : Nat) : Int)) ∧ w = w' := by
  have h := Try.bits_Len (x : Int) w (by omega) (by omega)
  rw [Int.toNat_natCast, blen_bitLen x hx h0] at h
  have hb := (blen_w h0 hx).2
  have e : wrap64 (64 - (blen x : Int)) = ((64 - blen x : Nat) : Int) := by unfold wrap64; omega
  have e2 : IntKind.i64.wrap (64 - (blen x : Int)) = ((64 - blen x : Nat) : Int) := by rw [IntKind.wrap_i64]; omega
  have H := Lib.hid h
  have hbI : (blen x : Int) ≤ 64 := by omega
  have e3 : (64 - (blen x : Int)) = ((64 - blen x : Nat) : Int) := by omega
  have E3 := Lib.hid e3
  clear h hx h0 hb e3
  go_enter Try.func75, Try.ntmps75
  go_wp2_with fail
  refine H.out.mono ?_
  rintro e w1 ⟨rfl, rfl⟩
  go_wp2_with fail
  go_ret
  exact ⟨by first | rfl | (congr 2; exact E3.out) | (show Ending.returned (.int .i64 _) = _; rw [E3.out]), rfl⟩
set_option maxRecDepth 100000 in
theorem nlz_any (x : Nat) (hx : x < 18446744073709551616) (h0 : x ≠ 0) (w : World) : Calls Try.prog 67 #[.int .u64 (x : Int)] w fun e w' => e = .returned (.int .u64 ((64 - blen x : Nat) : Int)) ∧ w = w' := by
  have H := Lib.hid (LeadingZeros_any x hx h0 w)
  have hs : 64 - blen x ≤ 64 := by omega
  clear hx h0
  generalize 64 - blen x = s at *
  have hI : (s : Int) ≤ 64 := by omega
  clear hs
  go_enter Try.func67, Try.ntmps67
  go_wp2_with fail
  refine H.out.mono ?_
  rintro e w1 ⟨rfl, rfl⟩
  go_wp2_with fail
  go_ret
  exact ⟨rfl, rfl⟩
/-- row g, of cap words: its first n words are those of X -/
def Rw (w : World) (g cap n X : Nat) : Prop := ∃ f, w.rowIs g 100 cap f ∧ ∀ j, j < n → f j = .int .u64 ((Num.dg Num.B64 X j : Nat) : Int)
theorem Rw.cell {w : World} {g cap n X : Nat} (h : Rw w g cap n X) (hn : n ≤ cap) (j : Nat) (hj : j < n) : w.cell? ⟨g, j, none⟩ = some (.int .u64 ((Num.dg Num.B64 X j : Nat) : Int)) := by
  obtain ⟨f, hr, hf⟩ := h
  have := hr.cell (i := j) (by omega)
  rwa [hf j hj] at this
theorem dg_top (N W : Nat) (h : N < 2 ^ (64 * W + 64)) : Num.dg Num.B64 N W = N / 2 ^ (64 * W) := by
  unfold Num.dg
  rw [B64_pow, Nat.mod_eq_of_lt]
  rw [Nat.div_lt_iff_lt_mul (Nat.two_pow_pos _), show Num.B64 = 2 ^ 64 by decide, ← Nat.pow_add, Nat.add_comm]
  exact h
/-- of a row of W + 1 words, the highest of them not 0: shifted to the left as far as it goes -/
def NormP (w : World) (g cap n X s : Nat) (e : Ending) (w' : World) : Prop := e = .returned (.int .i64 (s : Int)) ∧ Rw w' g cap n (X * 2 ^ s) ∧ w.grownBy w' (some g)
set_option maxRecDepth 100000 in
theorem fnorm_any (g cap W Lc N : Nat) (hW : W + 1 ≤ cap) (hcap : cap ≤ 1000000) (h1 : N < 2 ^ (64 * W + 64)) (h0 : N / 2 ^ (64 * W) ≠ 0) (w : World) (hr : Rw w g cap (W + 1) N) :
    Calls Try.prog 57 #[.slice (some ⟨g, 0, none⟩) (W + 1) Lc] w (NormP w g cap (W + 1) N (64 * W + 64 - blen N)) := by
  have htop := dg_top N W h1
  have hcl := hr.cell hW W (by omega)
  rw [htop] at hcl
  have ht : N / 2 ^ (64 * W) < 18446744073709551616 := by
    have := Num.dg_lt Num.B64_pos N W
    rw [htop] at this
    exact this
  have hb := blen_top N W h0
  have hbw := blen_w h0 ht
  have hnz := fun X => nlz_any (N / 2 ^ (64 * W)) ht h0 X
  have es : 64 * W + 64 - blen N = 64 - blen (N / 2 ^ (64 * W)) := by omega
  rw [← es] at hnz
  have hs63 : 64 * W + 64 - blen N ≤ 63 := by omega
  generalize N / 2 ^ (64 * W) = t at *
  obtain ⟨f, hrow, hf⟩ := hr
  have FIN0 : Hid (64 * W + 64 - blen N = 0 → Rw w g cap (W + 1) (N * 2 ^ (64 * W + 64 - blen N))) := Lib.hid fun e => by
    rw [e, Nat.pow_zero, Nat.mul_one]
    exact ⟨f, hrow, hf⟩
  have HL : Hid (1 ≤ 64 * W + 64 - blen N → Calls Try.prog 68 #[.slice (some ⟨g, 0, none⟩) (W + 1) Lc, .slice (some ⟨g, 0, none⟩) (W + 1) Lc, .int .u64 ((64 * W + 64 - blen N : Nat) : Int)] w (LshP w g cap (W + 1) (N * 2 ^ (64 * W + 64 - blen N)) f)) :=
    Lib.hid fun h => lshVU_any g cap (W + 1) Lc N _ h (by omega) f (by omega) hW hcap hf w hrow
  clear hrow hf htop hb hbw es ht
  generalize 64 * W + 64 - blen N = s at *
  generalize hD : N * 2 ^ s = D at *
  have HD := Lib.hid hD
  clear hD
  have HN := Lib.hid hnz
  have i0 : (0 : Int) ≤ (W : Int) := by omega
  have i2 : (W : Int) < (W : Int) + 1 := by omega
  have i3 : (W : Int) + 1 - 1 = (W : Int) := by omega
  have hWI : (W : Int) ≤ 1000000 := by omega
  have hsI : (s : Int) ≤ 63 := by omega
  clear hnz h0 h1 hs63
  by_cases hs0 : s = 0
  · have hR := Lib.hid (FIN0.out hs0)
    subst hs0
    clear FIN0 HL
    go_enter Try.func57, Try.ntmps57
    go_wp2_with fail
    refine (HN.out w).mono ?_
    rintro e w1 ⟨rfl, rfl⟩
    go_wp2_with fail
    go_ret
    exact ⟨rfl, by rw [HD.out]; exact hR.out, World.grownBy.refl w _⟩
  · have HL := Lib.hid (HL.out (by omega))
    have hsp : (0 : Int) < (s : Int) := by omega
    clear FIN0 hs0
    go_enter Try.func57, Try.ntmps57
    go_wp2_with fail
    refine (HN.out w).mono ?_
    rintro e w1 ⟨rfl, rfl⟩
    go_wp2_with fail
    refine (HL.out).mono ?_
    rintro e w1 ⟨k, rfl, hrow, hgr⟩
    go_wp2_with fail
    go_ret
    refine ⟨rfl, ⟨_, hrow, fun j hj => ?_⟩, hgr⟩
    rw [HD.out]
    unfold wu
    rw [if_pos ⟨Nat.zero_le _, hj⟩]
end Go.Proofs.Ytnheiigdgklbcaa
