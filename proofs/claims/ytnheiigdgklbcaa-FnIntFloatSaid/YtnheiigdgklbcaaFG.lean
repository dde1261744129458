/- An integer of the package: its kinds of size, its sign. -/
import Derived.Test.YtnheiigdgklbcaaFE
import Derived.Deep.RegionHeld3
import Derived.Laws.BitsAllLaws
namespace Go.Proofs.Ytnheiigdgklbcaa
open Go.ChangeShapes Go.WideShapes Go.ChangeAt Go.RowKit
set_option linter.unusedVariables false
theorem words1 {ws : List Nat} {N : Nat} (h : LW ws N) : ws.length ≤ 1 ↔ N < 18446744073709551616 := by
  constructor
  · intro hl
    have h1 := Num.le_lt Num.B64 Num.B64_pos ws h.1.dig
    have h2 : Num.B64 ^ ws.length ≤ Num.B64 ^ 1 := Nat.pow_le_pow_right Num.B64_pos hl
    rw [h.2] at h1
    have := Nat.lt_of_lt_of_le h1 h2
    simpa [Num.B64] using this
  · intro hN
    exact Num.len_lt Num.B64 (by decide) ws h.1 1 (by rw [h.2]; simpa [Num.B64] using hN)
set_option maxRecDepth 100000 in
theorem IsUint64_any (g : Nat) (z : Int) (w : World) (hg : BI w g z) :
    Calls Try.prog 29 #[.pointer (some ⟨g, 0, none⟩)] w fun e w' => e = .returned (.bool (decide (0 ≤ z ∧ z < 18446744073709551616))) ∧ w = w' := by
  obtain ⟨A, c, ws, hb, hs, hlw, hne⟩ := hg
  have c1 : w.cell? ⟨g, 1, none⟩ = some (.slice A ws.length c) := hb.cell 1
  have c0 : w.cell? ⟨g, 0, none⟩ = some (.bool (decide (z < 0))) := hb.cell 0
  have hw := words1 hlw
  clear hb hs hlw hne
  generalize ws.length = n at *
  by_cases hz : z < 0
  · have e : Hid (decide (0 ≤ z ∧ z < 18446744073709551616) = false) := Lib.hid (decide_eq_false (by omega))
    rw [decide_eq_true hz] at c0
    rw [e.out]
    clear hz hw
    go_enter Try.func29, Try.ntmps29
    go_wp2_with fail
    go_ret
    exact ⟨rfl, rfl⟩
  · rw [decide_eq_false hz] at c0
    by_cases hl : n ≤ 1
    · have e : Hid (decide (0 ≤ z ∧ z < 18446744073709551616) = true) := Lib.hid (decide_eq_true (by have := hw.1 hl; omega))
      have hl2 : (n : Int) ≤ 1 := by omega
      rw [e.out]
      clear hz hw hl
      go_enter Try.func29, Try.ntmps29
      go_wp2_with fail
      go_ret
      exact ⟨rfl, rfl⟩
    · have e : Hid (decide (0 ≤ z ∧ z < 18446744073709551616) = false) := Lib.hid (decide_eq_false (fun h => hl (hw.2 (by omega))))
      have hl2 : ¬ (n : Int) ≤ 1 := by omega
      rw [e.out]
      clear hz hw hl
      go_enter Try.func29, Try.ntmps29
      go_wp2_with fail
      go_ret
      exact ⟨rfl, rfl⟩
set_option maxRecDepth 100000 in
theorem Uint64_any (g : Nat) (z : Int) (hz : z.natAbs < Num.Cap) (w : World) (hg : BI w g z) :
    Calls Try.prog 30 #[.pointer (some ⟨g, 0, none⟩)] w fun e w' => e = .returned (.int .u64 ((z.natAbs % 18446744073709551616 : Nat) : Int)) ∧ w = w' := by
  obtain ⟨A, c, ws, hb, hs, hlw, hne⟩ := hg
  have c1 : w.cell? ⟨g, 1, none⟩ = some (.slice A ws.length c) := hb.cell 1
  have HL := Lib.hid (low64_any A c ws z.natAbs hlw (by have := hlw.len hz; omega) w hs)
  clear hb hs hlw hne hz
  generalize z.natAbs % 18446744073709551616 = m at *
  go_enter Try.func30, Try.ntmps30
  go_wp2_with fail
  refine HL.out.mono ?_
  rintro e w1 ⟨rfl, rfl⟩
  go_wp2_with fail
  go_ret
  exact ⟨rfl, rfl⟩
set_option maxRecDepth 100000 in
theorem IsInt64_any (g : Nat) (z : Int) (hz : z.natAbs < Num.Cap) (w : World) (hg : BI w g z) :
    Calls Try.prog 31 #[.pointer (some ⟨g, 0, none⟩)] w fun e w' => e = .returned (.bool (decide (-9223372036854775808 ≤ z ∧ z < 9223372036854775808))) ∧ w = w' := by
  obtain ⟨A, c, ws, hb, hs, hlw, hne⟩ := hg
  have c1 : w.cell? ⟨g, 1, none⟩ = some (.slice A ws.length c) := hb.cell 1
  have c0 : w.cell? ⟨g, 0, none⟩ = some (.bool (decide (z < 0))) := hb.cell 0
  have hw := words1 hlw
  have HL := Lib.hid (low64_any A c ws z.natAbs hlw (by have := hlw.len hz; omega) w hs)
  clear hb hs hlw hne hz
  generalize ws.length = n at *
  by_cases hl : n ≤ 1
  · have hN := hw.1 hl
    have hl2 : (n : Int) ≤ 1 := by omega
    rw [Nat.mod_eq_of_lt hN] at HL
    obtain ⟨m, hm⟩ : ∃ m, m = z.natAbs := ⟨_, rfl⟩
    rw [← hm] at HL
    obtain ⟨k, hk⟩ : ∃ k : Int, k = if m < 9223372036854775808 then (m : Int) else (m : Int) - 18446744073709551616 := ⟨_, rfl⟩
    have wk : IntKind.i64.wrap (m : Int) = k := by rw [IntKind.wrap_i64]; rw [hk]; split <;> omega
    have wk2 : wrap64 (m : Int) = k := by unfold wrap64; rw [hk]; split <;> omega
    by_cases hk0 : 0 ≤ k
    · have e : Hid (decide (-9223372036854775808 ≤ z ∧ z < 9223372036854775808) = true) := Lib.hid (decide_eq_true (by
        have : m < 9223372036854775808 := by
          apply Classical.byContradiction
          intro h
          rw [if_neg h] at hk
          omega
        omega))
      rw [e.out]
      clear hw hl hN hm hk
      go_enter Try.func31, Try.ntmps31
      go_wp2_with fail
      refine HL.out.mono ?_
      rintro e w1 ⟨rfl, rfl⟩
      go_wp2_with fail
      go_ret
      exact ⟨rfl, rfl⟩
    · have hm63 : ¬ m < 9223372036854775808 := fun h => by rw [if_pos h] at hk; omega
      rw [if_neg hm63] at hk
      have wneg : IntKind.i64.wrap (-k) = (if m = 9223372036854775808 then k else -k) := by rw [IntKind.wrap_i64]; split <;> omega
      by_cases hz : z < 0
      · rw [decide_eq_true hz] at c0
        by_cases h63 : m = 9223372036854775808
        · rw [if_pos h63] at wneg
          have wneg2 : wrap64 (-k) = k := by unfold wrap64; omega
          have e : Hid (decide (-9223372036854775808 ≤ z ∧ z < 9223372036854775808) = true) := Lib.hid (decide_eq_true (by omega))
          rw [e.out]
          clear hw hl hN hm hk hm63 h63 hz
          go_enter Try.func31, Try.ntmps31
          go_wp2_with fail
          refine HL.out.mono ?_
          rintro e w1 ⟨rfl, rfl⟩
          go_wp2_with fail
          go_ret
          exact ⟨rfl, rfl⟩
        · have HD0 : Hid (decide (0 ≤ k) = false) := Lib.hid (decide_eq_false hk0)
          have HD1 : Hid ((k == -k) = false) := Lib.hid (by simp; omega)
          rw [if_neg h63] at wneg
          have hne2 : ¬ k = -k := by omega
          have e : Hid (decide (-9223372036854775808 ≤ z ∧ z < 9223372036854775808) = false) := Lib.hid (decide_eq_false (by omega))
          rw [e.out]
          clear hw hl hN hm hk hm63 h63 hz
          go_enter Try.func31, Try.ntmps31
          go_wp2_with fail
          refine HL.out.mono ?_
          rintro e w1 ⟨rfl, rfl⟩
          go_wp2_with fail
          go_ret
          exact ⟨by show Ending.returned (.bool (decide (0 ≤ k) || k == -k)) = _; rw [HD0.out, HD1.out]; rfl, rfl⟩
      · have HD0 : Hid (decide (0 ≤ k) = false) := Lib.hid (decide_eq_false hk0)
        rw [decide_eq_false hz] at c0
        have e : Hid (decide (-9223372036854775808 ≤ z ∧ z < 9223372036854775808) = false) := Lib.hid (decide_eq_false (by omega))
        rw [e.out]
        clear hw hl hN hm hk hm63 hz wneg
        go_enter Try.func31, Try.ntmps31
        go_wp2_with fail
        refine HL.out.mono ?_
        rintro e w1 ⟨rfl, rfl⟩
        go_wp2_with fail
        go_ret
        exact ⟨by show Ending.returned (.bool (decide (0 ≤ k))) = _; rw [HD0.out], rfl⟩
  · have hN : ¬ z.natAbs < 18446744073709551616 := fun h => hl (hw.2 h)
    have hl2 : ¬ (n : Int) ≤ 1 := by omega
    have e : Hid (decide (-9223372036854775808 ≤ z ∧ z < 9223372036854775808) = false) := Lib.hid (decide_eq_false (by omega))
    rw [e.out]
    clear hw hl hN
    go_enter Try.func31, Try.ntmps31
    go_wp2_with fail
    go_ret
    exact ⟨rfl, rfl⟩
set_option maxRecDepth 100000 in
theorem bSign_any (g : Nat) (z : Int) (w : World) (hg : BI w g z) :
    Calls Try.prog 35 #[.pointer (some ⟨g, 0, none⟩)] w fun e w' => e = .returned (.int .i64 z.sign) ∧ w = w' := by
  obtain ⟨A, c, ws, hb, hs, hl, _⟩ := hg
  have c0 : w.cell? ⟨g, 0, none⟩ = some (.bool (decide (z < 0))) := hb.cell 0
  have c1 : w.cell? ⟨g, 1, none⟩ = some (.slice A ws.length c) := hb.cell 1
  have hz := hl.nil_iff
  by_cases h0 : z = 0
  · have hws : ws = [] := hz.2 (by omega)
    subst h0 hws
    clear hb hs hl hz
    go_enter Try.func35, Try.ntmps35
    go_wp2_with fail
    go_ret
    exact ⟨rfl, rfl⟩
  · have hws : ws.length ≠ 0 := fun h => by have := hz.1 (List.eq_nil_of_length_eq_zero h); omega
    by_cases hn : z < 0
    · have e1 : decide (z < 0) = true := decide_eq_true hn
      have e2 : Hid (z.sign = -1) := Lib.hid (Int.sign_eq_neg_one_of_neg hn)
      rw [e1] at c0
      clear hb hs hl hz hn e1 h0
      go_enter Try.func35, Try.ntmps35
      go_wp2_with fail
      go_ret
      rw [e2.out]
      exact ⟨rfl, rfl⟩
    · have e1 : decide (z < 0) = false := decide_eq_false hn
      have e2 : Hid (z.sign = 1) := Lib.hid (Int.sign_eq_one_of_pos (by omega))
      rw [e1] at c0
      clear hb hs hl hz hn e1 h0
      go_enter Try.func35, Try.ntmps35
      go_wp2_with fail
      go_ret
      rw [e2.out]
      exact ⟨rfl, rfl⟩
set_option maxRecDepth 100000 in
theorem Int64_min (g : Nat) (w : World) (hg : BI w g (-9223372036854775808)) :
    Calls Try.prog 32 #[.pointer (some ⟨g, 0, none⟩)] w fun e w' => e = .returned (.int .i64 (-9223372036854775808)) ∧ w = w' := by
  obtain ⟨A, c, ws, hb, hs, hlw, hne⟩ := hg
  have c1 : w.cell? ⟨g, 1, none⟩ = some (.slice A ws.length c) := hb.cell 1
  have c0 : w.cell? ⟨g, 0, none⟩ = some (.bool true) := hb.cell 0
  have hlo := low64_any A c ws _ hlw (by have := (words1 hlw).2 (by decide); omega) w hs
  have HL := Lib.hid hlo
  have e1 : Hid (((((-9223372036854775808 : Int).natAbs % 18446744073709551616 : Nat)) : Int) = 9223372036854775808) := Lib.hid (by decide)
  rw [e1.out] at HL
  have w1 : IntKind.i64.wrap 9223372036854775808 = -9223372036854775808 := by rw [IntKind.wrap_i64]; decide
  have w2 : wrap64 9223372036854775808 = -9223372036854775808 := by unfold wrap64; omega
  clear hb hs hlw hne hlo
  go_enter Try.func32, Try.ntmps32
  go_wp2_with fail
  refine HL.out.mono ?_
  rintro e w1 ⟨rfl, rfl⟩
  go_wp2_with fail
  go_ret
  exact ⟨rfl, rfl⟩
theorem floatOf (z : Int) : floatOfInt .f64 z = FL (decide (z < 0)) z.natAbs := rfl
theorem FL_over (neg : Bool) (N n : Nat) (hn : n = blen N) (h : 1024 < n) : FL neg N = infOf neg := by
  have h1 := f64_bits neg N n _ hn (by omega) rfl _ rfl _ rfl
  refine h1.2.1 ?_
  split <;> omega
end Go.Proofs.Ytnheiigdgklbcaa
