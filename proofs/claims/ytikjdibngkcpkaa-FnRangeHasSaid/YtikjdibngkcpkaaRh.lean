/- The law FnRangeHas at any world. -/
import Derived.Test.YtikjdibngkcpkaaRg
namespace Go.Proofs.Ytikjdibngkcpkaa
open Go.ChangeShapes Go.WideShapes Go.ChangeAt Go.RowKit
set_option linter.unusedVariables false
theorem two_cap : (2 : Int).natAbs < Num.Cap := by
  show 2 < 256 ^ Num.capK
  exact Nat.lt_of_lt_of_le (show 2 < 256 ^ 1 by decide) (Nat.pow_le_pow_right (by decide) (show 1 ≤ Num.capK by unfold Num.capK; decide))
theorem range_cases (a L s z : Int) (s0 : s ≠ 0) (ha : InR a) (hs : InR s) :
    (InR z ∧ hasR a L s z = true ∧ 0 ≤ (z - a).tdiv s ∧ (z - a).tdiv s < L ∧ a + (z - a).tdiv s * s = z) ∨ (InR z ∧ hasR a L s z = false ∧ (z - a).tdiv s < 0) ∨ (InR z ∧ hasR a L s z = false ∧ 0 ≤ (z - a).tdiv s ∧ L ≤ (z - a).tdiv s) ∨
      (InR z ∧ hasR a L s z = false ∧ 0 ≤ (z - a).tdiv s ∧ (z - a).tdiv s < L ∧ (a + (z - a).tdiv s * s == z) = false) ∨ (hasR a L s z = false ∧ ¬ InR z) := by
  have hm := Int.mul_tdiv_add_tmod (z - a) s
  rw [Int.mul_comm] at hm
  by_cases hz : InR z
  · have hS : Sm z = true := decide_eq_true hz
    have hR : hasR a L s z = decide ((z - a).tmod s = 0 ∧ 0 ≤ (z - a).tdiv s ∧ (z - a).tdiv s < L) := by unfold hasR; rw [hS, Bool.true_and]
    rw [hR]
    generalize (z - a).tdiv s * s = m at *
    generalize (z - a).tdiv s = k at *
    generalize (z - a).tmod s = r at *
    by_cases h1 : 0 ≤ k
    · by_cases h2 : k < L
      · by_cases h3 : a + m = z
        · exact .inl ⟨hz, decide_eq_true ⟨by omega, h1, h2⟩, h1, h2, h3⟩
        · exact .inr (.inr (.inr (.inl ⟨hz, decide_eq_false (by omega), h1, h2, by simpa using h3⟩)))
      · exact .inr (.inr (.inl ⟨hz, decide_eq_false (by omega), h1, by omega⟩))
    · exact .inr (.inl ⟨hz, decide_eq_false (by omega), by omega⟩)
  · have hS : Sm z = false := decide_eq_false hz
    exact .inr (.inr (.inr (.inr ⟨by unfold hasR; rw [hS, Bool.false_and], hz⟩)))
theorem kms_bd (a z s : Int) (ha : InR a) (hz : InR z) : -8589934592 ≤ (z - a).tdiv s * s ∧ (z - a).tdiv s * s ≤ 8589934592 := by
  have hm := Int.mul_tdiv_add_tmod (z - a) s
  rw [Int.mul_comm] at hm
  obtain ⟨h1, h2⟩ := ha
  obtain ⟨h3, h4⟩ := hz
  have := tmod_bd (z - a) s (by omega) (by omega)
  omega
set_option maxRecDepth 100000 in
set_option maxHeartbeats 4000000 in
theorem FnRangeHas_any (a0 b0 s0 : Int) (b : Bool) (A : Option Addr) (c : Nat) (l : List Nat) (hd : ∀ d ∈ l, d < 256) (w : World) (hs : Sl w A c (by8 l)) :
    Calls Try.prog 5 #[.int .i64 a0, .int .i64 b0, .int .i64 s0, .bool b, .slice A l.length c] w fun e w' => e = .returned (.bool true) ∧ Kept w w' := by
  have HS := Lib.hid hs
  have HD := Lib.hid hd
  clear hs hd
  by_cases hl : l.length ≤ 2147483647
  · have hl' : ¬ (2147483647 : Int) < (l.length : Int) := by omega
    go_enter Try.func5, Try.ntmps5
    go_wp2_with fail
    refine (ranged_any a0 b0 s0 w).mono ?_
    rintro e w1 ⟨a, b', s, rfl, ha, hb, hs, hs0, rfl⟩
    go_wp2_with fail
    refine (whole2_any b A c l 40 hl (by omega) HD.out w HS.out).mono ?_
    have hzc := zof_cap b l 40 HD.out (by omega)
    generalize zof b l 40 = z at *
    rintro e w1 ⟨v1, v2, rfl, hv1, hv2, hk1⟩
    have HX := Lib.hid hv1.toSI
    obtain ⟨b1, A1, n1, c1, rfl⟩ := hv1.two
    obtain ⟨A2, c2, l2, rfl, q⟩ := hv2
    have HV : Hid (VI w1 (.agg #[.int .i64 2, .bool (decide (z < 0)), .slice A2 l2.length c2, .int .u64 0, .string ⟨#[]⟩, .slice none 0 0]) z) := Lib.hid ⟨A2, c2, l2, rfl, q.1, q.2.1⟩
    have HA := Lib.hid ha
    have HB := Lib.hid hb
    have HSS := Lib.hid hs
    have H0 := Lib.hid hs0
    have HZC := Lib.hid hzc
    have hcase := range_cases a (cnt a b' s) s z hs0 ha hs
    have hkm := kms_bd a z s ha
    clear q hv1 ha hb hs hs0 hzc
    go_wp2_with fail
    have hk2 := (hk1.alloc hk1.size (.cells #[.bool b1, .slice A1 n1 c1] 24)).alloc (Nat.le_trans hk1.size (by simp)) (.cells #[.int .i64 2, .bool (decide (z < 0)), .slice A2 l2.length c2, .int .u64 0, .string ⟨#[]⟩, .slice none 0 0] 28)
    have kk : Kept w1 ((w1.alloc (.cells #[.bool b1, .slice A1 n1 c1] 24)).alloc (.cells #[.int .i64 2, .bool (decide (z < 0)), .slice A2 l2.length c2, .int .u64 0, .string ⟨#[]⟩, .slice none 0 0] 28)) := by go_grown
    have HV2 := Lib.hid (HV.out.below kk)
    have HX2 := Lib.hid (HX.out.below kk)
    have hp : Blk ((w1.alloc (.cells #[.bool b1, .slice A1 n1 c1] 24)).alloc (.cells #[.int .i64 2, .bool (decide (z < 0)), .slice A2 l2.length c2, .int .u64 0, .string ⟨#[]⟩, .slice none 0 0] 28)) (w1.heap.size + 1) 28 #[.int .i64 2, .bool (decide (z < 0)), .slice A2 l2.length c2, .int .u64 0, .string ⟨#[]⟩, .slice none 0 0] := by
      have := Blk.new (w1.alloc (.cells #[.bool b1, .slice A1 n1 c1] 24)) 28 #[.int .i64 2, .bool (decide (z < 0)), .slice A2 l2.length c2, .int .u64 0, .string ⟨#[]⟩, .slice none 0 0]
      rwa [World.size_alloc] at this
    have HK2 := Lib.hid hk2
    have HP := Lib.hid hp
    clear kk HV HX hk2 hp
    generalize ((w1.alloc (.cells #[.bool b1, .slice A1 n1 c1] 24)).alloc (.cells #[.int .i64 2, .bool (decide (z < 0)), .slice A2 l2.length c2, .int .u64 0, .string ⟨#[]⟩, .slice none 0 0] 28)) = W at *
    have hh2 : hasR 0 (cnt 0 3 1) 1 2 = true := by decide
    have HH2 := Lib.hid hh2
    have HCNT : Hid (∀ W, Calls Try.prog 18 #[.int .i64 a, .int .i64 b', .int .i64 s] W fun e w' => e = .returned (.int .i64 (cnt a b' s)) ∧ W = w') := Lib.hid fun W => Count_any a b' s HA.out.1 HA.out.2 HB.out.1 HB.out.2 HSS.out.1 HSS.out.2 W
    have HRH : Hid (∀ W v, VI W v z → Calls Try.prog 19 #[.int .i64 a, .int .i64 b', .int .i64 s, v] W fun e w' => e = .returned (.bool (hasR a (cnt a b' s) s z)) ∧ Kept W w') := Lib.hid fun W v h => RangeHas_any a b' s v z HA.out HB.out HSS.out H0.out HZC.out W h
    clear hh2
    generalize hL : cnt a b' s = L at *
    have HL := Lib.hid hL
    clear hL
    rcases hcase with ⟨hz, hR, k1, k2, k3⟩ | ⟨hz, hR, k1⟩ | ⟨hz, hR, k1, k2⟩ | ⟨hz, hR, k1, k2, k3⟩ | ⟨hR, hz⟩
    all_goals
      rw [hR] at HRH
      clear hR
    rotate_left 4
    · have h3 : (-9223372036854775808 ≤ z ∧ z < -2147483648) ∨ (2147483647 < z ∧ z ≤ 9223372036854775807) ∨ z < -9223372036854775808 ∨ 9223372036854775807 < z := by
        have : ¬ (-2147483648 ≤ z ∧ z ≤ 2147483647) := hz
        omega
      clear hz hkm
      rcases h3 with ⟨z1, z2⟩ | ⟨z1, z2⟩ | z1 | z1
      · refine (sInt64_fits b1 A1 n1 c1 z (by omega) (by omega) W HX2.out).mono ?_
        rintro e w3 ⟨rfl, hk3⟩
        have hp3 := HP.out.below hk3
        have HV3 := Lib.hid (HV2.out.below hk3)
        have HK3 : Hid (Kept w w3) := Lib.hid (Below.trans HK2.out (hk3.mono HK2.out.size))
        have u0 : w3.cell? ⟨w1.heap.size + 1, 0, none⟩ = some (.int .i64 2) := hp3.cell 0
        have u1 : w3.cell? ⟨w1.heap.size + 1, 1, none⟩ = some (.bool (decide (z < 0))) := hp3.cell 1
        have u2 : w3.cell? ⟨w1.heap.size + 1, 2, none⟩ = some (.slice A2 l2.length c2) := hp3.cell 2
        have u3 : w3.cell? ⟨w1.heap.size + 1, 3, none⟩ = some (.int .u64 0) := hp3.cell 3
        have u4 : w3.cell? ⟨w1.heap.size + 1, 4, none⟩ = some (.string ⟨#[]⟩) := hp3.cell 4
        have u5 : w3.cell? ⟨w1.heap.size + 1, 5, none⟩ = some (.slice none 0 0) := hp3.cell 5
        clear hp3 hk3 HX2 HV2 hk1
        go_wp2_with fail
        clear u0 u1 u2 u3 u4 u5
        refine (HRH.out w3 _ HV3.out).mono ?_
        rintro e w4 ⟨rfl, hk4⟩
        have HK4 : Hid (Kept w w4) := Lib.hid (HK3.out.trans hk4)
        clear hk4
        go_wp2_with fail
        refine (Small_any 2 (by omega) (by omega) w4).mono ?_
        rintro e w5 ⟨v5, rfl, hv5, hk5⟩
        have HK5 : Hid (Kept w w5) := Lib.hid (HK4.out.trans hk5)
        have HX5 := Lib.hid hv5.toSI
        obtain ⟨b5, A5, n5, c5, rfl⟩ := hv5.two
        clear hv5 hk5
        go_wp2_with fail
        refine (told_any _ 2 two_cap w5 HX5.out).mono ?_
        rintro e w6 ⟨v6, rfl, hv6, hk6⟩
        have HK6 : Hid (Kept w w6) := Lib.hid (HK5.out.trans hk6)
        have HV6 := Lib.hid hv6.toVI
        obtain ⟨A6, c6, l6, rfl, _⟩ := hv6
        clear hk6
        go_wp2_with fail
        refine (RangeHas_any 0 3 1 _ 2 ⟨by decide, by decide⟩ ⟨by decide, by decide⟩ ⟨by decide, by decide⟩ (by decide) two_cap w6 HV6.out).mono ?_
        rw [HH2.out]
        rintro e w7 ⟨rfl, hk7⟩
        go_wp2_with fail
        go_ret
        exact ⟨rfl, HK6.out.trans hk7⟩
      · refine (sInt64_fits b1 A1 n1 c1 z (by omega) (by omega) W HX2.out).mono ?_
        rintro e w3 ⟨rfl, hk3⟩
        have hp3 := HP.out.below hk3
        have HV3 := Lib.hid (HV2.out.below hk3)
        have HK3 : Hid (Kept w w3) := Lib.hid (Below.trans HK2.out (hk3.mono HK2.out.size))
        have u0 : w3.cell? ⟨w1.heap.size + 1, 0, none⟩ = some (.int .i64 2) := hp3.cell 0
        have u1 : w3.cell? ⟨w1.heap.size + 1, 1, none⟩ = some (.bool (decide (z < 0))) := hp3.cell 1
        have u2 : w3.cell? ⟨w1.heap.size + 1, 2, none⟩ = some (.slice A2 l2.length c2) := hp3.cell 2
        have u3 : w3.cell? ⟨w1.heap.size + 1, 3, none⟩ = some (.int .u64 0) := hp3.cell 3
        have u4 : w3.cell? ⟨w1.heap.size + 1, 4, none⟩ = some (.string ⟨#[]⟩) := hp3.cell 4
        have u5 : w3.cell? ⟨w1.heap.size + 1, 5, none⟩ = some (.slice none 0 0) := hp3.cell 5
        clear hp3 hk3 HX2 HV2 hk1
        go_wp2_with fail
        clear u0 u1 u2 u3 u4 u5
        refine (HRH.out w3 _ HV3.out).mono ?_
        rintro e w4 ⟨rfl, hk4⟩
        have HK4 : Hid (Kept w w4) := Lib.hid (HK3.out.trans hk4)
        clear hk4
        go_wp2_with fail
        refine (Small_any 2 (by omega) (by omega) w4).mono ?_
        rintro e w5 ⟨v5, rfl, hv5, hk5⟩
        have HK5 : Hid (Kept w w5) := Lib.hid (HK4.out.trans hk5)
        have HX5 := Lib.hid hv5.toSI
        obtain ⟨b5, A5, n5, c5, rfl⟩ := hv5.two
        clear hv5 hk5
        go_wp2_with fail
        refine (told_any _ 2 two_cap w5 HX5.out).mono ?_
        rintro e w6 ⟨v6, rfl, hv6, hk6⟩
        have HK6 : Hid (Kept w w6) := Lib.hid (HK5.out.trans hk6)
        have HV6 := Lib.hid hv6.toVI
        obtain ⟨A6, c6, l6, rfl, _⟩ := hv6
        clear hk6
        go_wp2_with fail
        refine (RangeHas_any 0 3 1 _ 2 ⟨by decide, by decide⟩ ⟨by decide, by decide⟩ ⟨by decide, by decide⟩ (by decide) two_cap w6 HV6.out).mono ?_
        rw [HH2.out]
        rintro e w7 ⟨rfl, hk7⟩
        go_wp2_with fail
        go_ret
        exact ⟨rfl, HK6.out.trans hk7⟩
      · refine (sInt64_below b1 A1 n1 c1 z z1 W HX2.out).mono ?_
        rintro e w3 ⟨rfl, hk3⟩
        have hp3 := HP.out.below hk3
        have HV3 := Lib.hid (HV2.out.below hk3)
        have HK3 : Hid (Kept w w3) := Lib.hid (Below.trans HK2.out (hk3.mono HK2.out.size))
        have u0 : w3.cell? ⟨w1.heap.size + 1, 0, none⟩ = some (.int .i64 2) := hp3.cell 0
        have u1 : w3.cell? ⟨w1.heap.size + 1, 1, none⟩ = some (.bool (decide (z < 0))) := hp3.cell 1
        have u2 : w3.cell? ⟨w1.heap.size + 1, 2, none⟩ = some (.slice A2 l2.length c2) := hp3.cell 2
        have u3 : w3.cell? ⟨w1.heap.size + 1, 3, none⟩ = some (.int .u64 0) := hp3.cell 3
        have u4 : w3.cell? ⟨w1.heap.size + 1, 4, none⟩ = some (.string ⟨#[]⟩) := hp3.cell 4
        have u5 : w3.cell? ⟨w1.heap.size + 1, 5, none⟩ = some (.slice none 0 0) := hp3.cell 5
        clear hp3 hk3 HX2 HV2 hk1
        go_wp2_with fail
        clear u0 u1 u2 u3 u4 u5
        refine (HRH.out w3 _ HV3.out).mono ?_
        rintro e w4 ⟨rfl, hk4⟩
        have HK4 : Hid (Kept w w4) := Lib.hid (HK3.out.trans hk4)
        clear hk4
        go_wp2_with fail
        refine (Small_any 2 (by omega) (by omega) w4).mono ?_
        rintro e w5 ⟨v5, rfl, hv5, hk5⟩
        have HK5 : Hid (Kept w w5) := Lib.hid (HK4.out.trans hk5)
        have HX5 := Lib.hid hv5.toSI
        obtain ⟨b5, A5, n5, c5, rfl⟩ := hv5.two
        clear hv5 hk5
        go_wp2_with fail
        refine (told_any _ 2 two_cap w5 HX5.out).mono ?_
        rintro e w6 ⟨v6, rfl, hv6, hk6⟩
        have HK6 : Hid (Kept w w6) := Lib.hid (HK5.out.trans hk6)
        have HV6 := Lib.hid hv6.toVI
        obtain ⟨A6, c6, l6, rfl, _⟩ := hv6
        clear hk6
        go_wp2_with fail
        refine (RangeHas_any 0 3 1 _ 2 ⟨by decide, by decide⟩ ⟨by decide, by decide⟩ ⟨by decide, by decide⟩ (by decide) two_cap w6 HV6.out).mono ?_
        rw [HH2.out]
        rintro e w7 ⟨rfl, hk7⟩
        go_wp2_with fail
        go_ret
        exact ⟨rfl, HK6.out.trans hk7⟩
      · refine (sInt64_above b1 A1 n1 c1 z z1 W HX2.out).mono ?_
        rintro e w3 ⟨rfl, hk3⟩
        have hp3 := HP.out.below hk3
        have HV3 := Lib.hid (HV2.out.below hk3)
        have HK3 : Hid (Kept w w3) := Lib.hid (Below.trans HK2.out (hk3.mono HK2.out.size))
        have u0 : w3.cell? ⟨w1.heap.size + 1, 0, none⟩ = some (.int .i64 2) := hp3.cell 0
        have u1 : w3.cell? ⟨w1.heap.size + 1, 1, none⟩ = some (.bool (decide (z < 0))) := hp3.cell 1
        have u2 : w3.cell? ⟨w1.heap.size + 1, 2, none⟩ = some (.slice A2 l2.length c2) := hp3.cell 2
        have u3 : w3.cell? ⟨w1.heap.size + 1, 3, none⟩ = some (.int .u64 0) := hp3.cell 3
        have u4 : w3.cell? ⟨w1.heap.size + 1, 4, none⟩ = some (.string ⟨#[]⟩) := hp3.cell 4
        have u5 : w3.cell? ⟨w1.heap.size + 1, 5, none⟩ = some (.slice none 0 0) := hp3.cell 5
        clear hp3 hk3 HX2 HV2 hk1
        go_wp2_with fail
        clear u0 u1 u2 u3 u4 u5
        refine (HRH.out w3 _ HV3.out).mono ?_
        rintro e w4 ⟨rfl, hk4⟩
        have HK4 : Hid (Kept w w4) := Lib.hid (HK3.out.trans hk4)
        clear hk4
        go_wp2_with fail
        refine (Small_any 2 (by omega) (by omega) w4).mono ?_
        rintro e w5 ⟨v5, rfl, hv5, hk5⟩
        have HK5 : Hid (Kept w w5) := Lib.hid (HK4.out.trans hk5)
        have HX5 := Lib.hid hv5.toSI
        obtain ⟨b5, A5, n5, c5, rfl⟩ := hv5.two
        clear hv5 hk5
        go_wp2_with fail
        refine (told_any _ 2 two_cap w5 HX5.out).mono ?_
        rintro e w6 ⟨v6, rfl, hv6, hk6⟩
        have HK6 : Hid (Kept w w6) := Lib.hid (HK5.out.trans hk6)
        have HV6 := Lib.hid hv6.toVI
        obtain ⟨A6, c6, l6, rfl, _⟩ := hv6
        clear hk6
        go_wp2_with fail
        refine (RangeHas_any 0 3 1 _ 2 ⟨by decide, by decide⟩ ⟨by decide, by decide⟩ ⟨by decide, by decide⟩ (by decide) two_cap w6 HV6.out).mono ?_
        rw [HH2.out]
        rintro e w7 ⟨rfl, hk7⟩
        go_wp2_with fail
        go_ret
        exact ⟨rfl, HK6.out.trans hk7⟩
    all_goals
      obtain ⟨m1, m2⟩ := hkm hz
      obtain ⟨z1, z2⟩ := hz
      obtain ⟨t1, t2⟩ := tdiv_bd (z - a) s (by have := HA.out.1; have := HA.out.2; omega) (by have := HA.out.1; have := HA.out.2; omega)
      obtain ⟨a1, a2⟩ := HA.out
      have s3 : (s == 0) = false := by simpa using H0.out
      clear hkm
      refine (sInt64_fits b1 A1 n1 c1 z (by omega) (by omega) W HX2.out).mono ?_
      rintro e w3 ⟨rfl, hk3⟩
      have hp3 := HP.out.below hk3
      have HV3 := Lib.hid (HV2.out.below hk3)
      have HK3 : Hid (Kept w w3) := Lib.hid (Below.trans HK2.out (hk3.mono HK2.out.size))
      have u0 : w3.cell? ⟨w1.heap.size + 1, 0, none⟩ = some (.int .i64 2) := hp3.cell 0
      have u1 : w3.cell? ⟨w1.heap.size + 1, 1, none⟩ = some (.bool (decide (z < 0))) := hp3.cell 1
      have u2 : w3.cell? ⟨w1.heap.size + 1, 2, none⟩ = some (.slice A2 l2.length c2) := hp3.cell 2
      have u3 : w3.cell? ⟨w1.heap.size + 1, 3, none⟩ = some (.int .u64 0) := hp3.cell 3
      have u4 : w3.cell? ⟨w1.heap.size + 1, 4, none⟩ = some (.string ⟨#[]⟩) := hp3.cell 4
      have u5 : w3.cell? ⟨w1.heap.size + 1, 5, none⟩ = some (.slice none 0 0) := hp3.cell 5
      clear hp3 hk3 HX2 HV2 hk1
      go_wp2_with (go_at_call 18; refine (HCNT.out _).mono ?_; rintro e w1 ⟨rfl, rfl⟩)
      clear u0 u1 u2 u3 u4 u5
      refine (HRH.out w3 _ HV3.out).mono ?_
      rintro e w4 ⟨rfl, hk4⟩
      have HK4 : Hid (Kept w w4) := Lib.hid (HK3.out.trans hk4)
      clear hk4
      go_wp2_with fail
      refine (Small_any 2 (by omega) (by omega) w4).mono ?_
      rintro e w5 ⟨v5, rfl, hv5, hk5⟩
      have HK5 : Hid (Kept w w5) := Lib.hid (HK4.out.trans hk5)
      have HX5 := Lib.hid hv5.toSI
      obtain ⟨b5, A5, n5, c5, rfl⟩ := hv5.two
      clear hv5 hk5
      go_wp2_with fail
      refine (told_any _ 2 two_cap w5 HX5.out).mono ?_
      rintro e w6 ⟨v6, rfl, hv6, hk6⟩
      have HK6 : Hid (Kept w w6) := Lib.hid (HK5.out.trans hk6)
      have HV6 := Lib.hid hv6.toVI
      obtain ⟨A6, c6, l6, rfl, _⟩ := hv6
      clear hk6
      go_wp2_with fail
      refine (RangeHas_any 0 3 1 _ 2 ⟨by decide, by decide⟩ ⟨by decide, by decide⟩ ⟨by decide, by decide⟩ (by decide) two_cap w6 HV6.out).mono ?_
      rw [HH2.out]
      rintro e w7 ⟨rfl, hk7⟩
      go_wp2_with fail
      go_ret
      exact ⟨rfl, HK6.out.trans hk7⟩
  · have hl' : (2147483647 : Int) < (l.length : Int) := by omega
    go_enter Try.func5, Try.ntmps5
    go_wp2_with fail
    go_ret
    exact ⟨rfl, Below.refl _ _⟩
end Go.Proofs.Ytikjdibngkcpkaa
