/- The float nearest to an integer of the package. -/
import Derived.Test.YtnheiigdgklbcaaFG
import Derived.Deep.RegionHeld3
import Derived.Laws.BitsAllLaws
namespace Go.Proofs.Ytnheiigdgklbcaa
open Go.ChangeShapes Go.WideShapes Go.ChangeAt Go.RowKit
set_option linter.unusedVariables false
set_option maxRecDepth 100000 in
set_option maxHeartbeats 1000000 in
theorem Float_any (v : Value) (z : Int) (hz : z.natAbs < 256 ^ 200) (w : World) (hv : StI w v z) :
    Calls Try.prog 12 #[v] w fun e w' => e = .returned (.float .f64 (FL (decide (z < 0)) z.natAbs)) ∧ Kept w w' := by
  have hfz := floatOf z
  have HFZ := Lib.hid hfz
  rcases hv with ⟨rfl, hsm⟩ | ⟨g, rfl, hg, hsm⟩
  · have hk0 : Kept w (w.alloc (.cells #[.int .i64 z, .pointer none] 44)) := by go_grown
    have HK0 := Lib.hid hk0
    clear hsm hz hk0 hfz
    generalize FL (decide (z < 0)) z.natAbs = fl at *
    have hfz : floatOfInt .f64 z = fl := HFZ.out
    go_enter Try.func12, Try.ntmps12
    go_wp2_with fail
    refine (get_any z none _).mono ?_
    rintro e w1 ⟨rfl, hk1⟩
    go_wp2_with fail
    go_ret
    exact ⟨rfl, HK0.out.trans hk1⟩
  · have hk0 : Kept w (w.alloc (.cells #[.int .i64 0, .pointer (some ⟨g, 0, none⟩)] 44)) := by go_grown
    have hzc := cap_200 hz
    have HK0 := Lib.hid hk0
    have HG := Lib.hid hg
    clear hsm hk0 hg hfz
    by_cases hU : 0 ≤ z ∧ z < 18446744073709551616
    · have hm : z.natAbs % 18446744073709551616 = z.natAbs := Nat.mod_eq_of_lt (by omega)
      have CU := Lib.hid (fun W hW => IsUint64_any g z W hW)
      rw [decide_eq_true hU] at CU
      have CV := Lib.hid (fun W hW => Uint64_any g z hzc W hW)
      rw [hm] at CV
      obtain ⟨m, hme⟩ : ∃ m : Nat, z = m := ⟨z.natAbs, by omega⟩
      subst hme
      rw [Int.natAbs_natCast] at CV HFZ ⊢
      clear hU hm hz hzc
      generalize FL (decide ((m : Int) < 0)) m = fl at *
      have hfz : floatOfInt .f64 (m : Int) = fl := HFZ.out
      go_enter Try.func12, Try.ntmps12
      go_wp2_with fail
      refine (get_any 0 (some ⟨g, 0, none⟩) _).mono ?_
      rintro e w1 ⟨rfl, hk1⟩
      have hk := HK0.out.trans hk1
      have hg1 := HG.out.below hk
      have HK := Lib.hid hk
      have HG1 := Lib.hid hg1
      clear hk hg1
      go_wp2_with fail
      refine (CU.out _ HG1.out).mono ?_
      rintro e w2 ⟨rfl, rfl⟩
      go_wp2_with fail
      refine (CV.out _ HG1.out).mono ?_
      rintro e w2 ⟨rfl, rfl⟩
      go_wp2_with fail
      go_ret
      exact ⟨rfl, HK.out⟩
    · have CU := Lib.hid (fun W hW => IsUint64_any g z W hW)
      rw [decide_eq_false hU] at CU
      have CI := Lib.hid (fun W hW => IsInt64_any g z hzc W hW)
      by_cases hI : -9223372036854775808 ≤ z ∧ z < 9223372036854775808
      · rw [decide_eq_true hI] at CI
        have CV : Hid (∀ W, BI W g z → Calls Try.prog 32 #[.pointer (some ⟨g, 0, none⟩)] W fun e w' => e = .returned (.int .i64 z) ∧ W = w') := Lib.hid fun W hW => by
          by_cases h : z = -9223372036854775808
          · subst h
            exact Int64_min g W hW
          · exact Int64_any g z (by omega) W hW
        clear hU hI hz hzc
        generalize FL (decide (z < 0)) z.natAbs = fl at *
        have hfz : floatOfInt .f64 z = fl := HFZ.out
        go_enter Try.func12, Try.ntmps12
        go_wp2_with fail
        refine (get_any 0 (some ⟨g, 0, none⟩) _).mono ?_
        rintro e w1 ⟨rfl, hk1⟩
        have hk := HK0.out.trans hk1
        have hg1 := HG.out.below hk
        have HK := Lib.hid hk
        have HG1 := Lib.hid hg1
        clear hk hg1
        go_wp2_with fail
        refine (CU.out _ HG1.out).mono ?_
        rintro e w2 ⟨rfl, rfl⟩
        go_wp2_with fail
        refine (CI.out _ HG1.out).mono ?_
        rintro e w2 ⟨rfl, rfl⟩
        go_wp2_with fail
        refine (CV.out _ HG1.out).mono ?_
        rintro e w2 ⟨rfl, rfl⟩
        go_wp2_with fail
        go_ret
        exact ⟨rfl, HK.out⟩
      · rw [decide_eq_false hI] at CI
        have hz0 : z ≠ 0 := by omega
        have hbig : 9223372036854775808 ≤ z.natAbs := by omega
        obtain ⟨n, hn⟩ : ∃ n, n = blen z.natAbs := ⟨_, rfl⟩
        have hn64 : 64 ≤ n := by
          have h := (blen_isLen z.natAbs) 63
          rw [← hn, show (2 : Nat) ^ 63 = 9223372036854775808 by decide] at h
          omega
        have hn1600 := blen_le hz
        rw [← hn] at hn1600
        have CB := Lib.hid (fun W hW => BitLen_any g z hzc W hW)
        have CSg := Lib.hid (fun W hW => bSign_any g z W hW)
        have hsg : decide (z.sign < 0) = decide (z < 0) := by
          rcases Int.lt_trichotomy z 0 with h | h | h
          · rw [Int.sign_eq_neg_one_of_neg h, decide_eq_true h]; rfl
          · exact absurd h hz0
          · have h2 : decide (z < 0) = false := decide_eq_false (by omega)
            rw [Int.sign_eq_one_of_pos h, h2]
            rfl
        have hov : 1024 < n → FL (decide (z < 0)) z.natAbs = infOf (decide (z < 0)) := fun h => FL_over _ _ n hn h
        have HOV := Lib.hid hov
        have HN := Lib.hid hn
        have HSG := Lib.hid hsg
        have CS : Hid (∀ W, BI W g z → Calls Try.prog 36 #[.pointer (some ⟨W.heap.size, 0, none⟩), .pointer (some ⟨g, 0, none⟩)] (W.alloc (.cells #[.int .u32 0, .int .u8 0, .int .i8 0, .int .u8 0, .bool false, .slice none 0 0, .int .i32 0] 76)) (SetP (W.alloc (.cells #[.int .u32 0, .int .u8 0, .int .i8 0, .int .u8 0, .bool false, .slice none 0 0, .int .i32 0] 76)) W.heap.size z)) :=
          Lib.hid fun W hW => SetInt_any W.heap.size g z hz0 hz W _ ((Below.refl _ _).alloc (Nat.le_refl _) _) (Nat.le_refl _) (Blk.new W _ _) hW
        have CF : Hid (∀ (x gr cap W s : Nat) (pr : Int) (X : World), s < 64 → 64 * W + 64 = n + s → (64 : Int) ≤ pr → W + 1 ≤ cap → cap ≤ 99999 → FB X x pr 0 1 (decide (z < 0)) (.slice (some ⟨gr, 0, none⟩) (W + 1) cap) ((n : Nat) : Int) → Rw X gr cap (W + 1) (z.natAbs * 2 ^ s) →
            Calls Try.prog 37 #[.pointer (some ⟨x, 0, none⟩)] X fun e w' => (∃ a : Int, e = .returned (.tuple #[.float .f64 (FL (decide (z < 0)) z.natAbs), .int .i8 a])) ∧ Kept X w') :=
          Lib.hid fun x gr cap W s pr X h1 h2 h3 h4 h5 h6 h7 => Float64_any x gr cap W z.natAbs s n pr h3 (decide (z < 0)) h1 hn h2 (by omega) hn1600 h4 h5 X h6 h7
        have hnI : (n : Int) ≤ 1600 := by omega
        clear hU hI hz hzc hov hbig hn64 hn1600 hsg hz0 hn
        generalize hFL : FL (decide (z < 0)) z.natAbs = fl at *
        have HFL := Lib.hid hFL
        clear hFL HFZ
        go_enter Try.func12, Try.ntmps12
        go_wp2_with fail
        refine (get_any 0 (some ⟨g, 0, none⟩) _).mono ?_
        rintro e w1 ⟨rfl, hk1⟩
        have hk := HK0.out.trans hk1
        have hg1 := HG.out.below hk
        have HK := Lib.hid hk
        have HG1 := Lib.hid hg1
        clear hk hg1
        go_wp2_with fail
        refine (CU.out _ HG1.out).mono ?_
        rintro e w2 ⟨rfl, rfl⟩
        go_wp2_with fail
        refine (CI.out _ HG1.out).mono ?_
        rintro e w2 ⟨rfl, rfl⟩
        go_wp2_with fail
        refine (CB.out _ HG1.out).mono ?_
        rintro e w2 ⟨n', rfl, hl, hle, rfl⟩
        obtain rfl : n' = n := by rw [HN.out]; exact hl.unique (blen_isLen _)
        clear hl hle
        by_cases ho : (1024 : Int) < (n' : Int)
        · have hfl := Lib.hid (HOV.out (by omega))
          go_wp2_with fail
          refine (CSg.out _ HG1.out).mono ?_
          rintro e w2 ⟨rfl, rfl⟩
          go_wp2_with fail
          refine (mathInf_any z.sign _).mono ?_
          rintro e w2 ⟨rfl, rfl⟩
          go_wp2_with fail
          go_ret
          exact ⟨by rw [hfl.out, ← HSG.out]; rfl, HK.out⟩
        · go_wp2_with fail
          refine (CS.out _ HG1.out).mono ?_
          rintro e w3 ⟨rfl, ⟨gr, cap, W, s, pr, h1, h2, h3, h4, h5, h6, h7, h8, h9⟩, h10⟩
          rw [← HN.out] at h2 h8
          have hk3 := h10 _ ((Below.refl _ _).alloc (Nat.le_refl _) _) (Nat.le_refl _)
          have C6 := Lib.hid (CF.out _ gr cap W s pr w3 h1 h2 h6 h4 h5 h8 h9)
          have HK3 := Lib.hid (HK.out.trans hk3)
          clear h1 h2 h3 h4 h5 h6 h7 h8 h9 h10 hk3
          go_wp2_with fail
          refine C6.out.mono ?_
          rintro e w4 ⟨⟨a, rfl⟩, hk4⟩
          go_wp2_with fail
          go_ret
          exact ⟨rfl, HK3.out.trans hk4⟩
end Go.Proofs.Ytnheiigdgklbcaa
