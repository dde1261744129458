import Derived.Test.YtikjdibngkcpkaaW6
namespace Go.Proofs.Ytikjdibngkcpkaa
open Go.ChangeShapes Go.WideShapes Go.ChangeAt Go.RowKit
set_option linter.unusedVariables false
theorem B64_pow (i : Nat) : Num.B64 ^ i = 2 ^ (64 * i) := by
  have : Num.B64 = 2 ^ 64 := by decide
  rw [this, ← Nat.pow_mul]
theorem dg_and (X Y i : Nat) : Num.dg Num.B64 (X &&& Y) i = Num.dg Num.B64 X i &&& Num.dg Num.B64 Y i := by
  unfold Num.dg
  rw [B64_pow, ← Nat.shiftRight_eq_div_pow, ← Nat.shiftRight_eq_div_pow, ← Nat.shiftRight_eq_div_pow, Nat.shiftRight_and_distrib]
  have : Num.B64 = 2 ^ 64 := by decide
  rw [this, Nat.and_mod_two_pow]
theorem dg_or (X Y i : Nat) : Num.dg Num.B64 (X ||| Y) i = Num.dg Num.B64 X i ||| Num.dg Num.B64 Y i := by
  unfold Num.dg
  rw [B64_pow, ← Nat.shiftRight_eq_div_pow, ← Nat.shiftRight_eq_div_pow, ← Nat.shiftRight_eq_div_pow, Nat.shiftRight_or_distrib]
  have : Num.B64 = 2 ^ 64 := by decide
  rw [this, Nat.or_mod_two_pow]
theorem dg_xor (X Y i : Nat) : Num.dg Num.B64 (X ^^^ Y) i = Num.dg Num.B64 X i ^^^ Num.dg Num.B64 Y i := by
  unfold Num.dg
  rw [B64_pow, ← Nat.shiftRight_eq_div_pow, ← Nat.shiftRight_eq_div_pow, ← Nat.shiftRight_eq_div_pow, Nat.shiftRight_xor_distrib]
  have : Num.B64 = 2 ^ 64 := by decide
  rw [this, Nat.xor_mod_two_pow]
/-- the bits of X that Y lacks -/
def anot (X Y : Nat) : Nat := X ^^^ (X &&& Y)
theorem dg_anot (X Y i : Nat) : Num.dg Num.B64 (anot X Y) i = anot (Num.dg Num.B64 X i) (Num.dg Num.B64 Y i) := by
  unfold anot
  rw [dg_xor, dg_and]
theorem anot_word (a b : Nat) (ha : a < 18446744073709551616) (hb : b < 18446744073709551616) : a &&& (18446744073709551615 - b) = anot a b := by
  unfold anot
  apply Nat.eq_of_testBit_eq
  intro j
  have h := Nat.testBit_two_pow_sub_succ (n := 64) (x := b) (by omega) j
  have e : 2 ^ 64 - (b + 1) = 18446744073709551615 - b := by omega
  rw [e] at h
  rw [Nat.testBit_and, h, Nat.testBit_xor, Nat.testBit_and]
  by_cases hj : j < 64
  · simp only [hj, decide_true, Bool.true_and]
    cases a.testBit j <;> cases b.testBit j <;> rfl
  · have : a.testBit j = false := Nat.testBit_lt_two_pow (Nat.lt_of_lt_of_le (show a < 2 ^ 64 by omega) (Nat.pow_le_pow_right (by omega) (by omega)))
    rw [this]
    simp
theorem fresh_ne {w : World} {A : Option Addr} {c : Nat} {xs : List Nat} (hs : Sl w A c (w64 xs)) (h : 0 < xs.length) : ∀ b off, A = some ⟨b, off, none⟩ → b < w.heap.size := fun b off e => by
  obtain ⟨b', off', e', hc⟩ := hs.at_ (w64_ne h)
  rw [e] at e'; injection e' with e'; injection e' with e1; subst e1
  exact block_lt_of_cell (hc 0 _ (w64_get xs 0 h))
/-- word i of a slice that reads as xs -/
theorem word_cell {w : World} {A : Option Addr} {c : Nat} {xs : List Nat} (hs : Sl w A c (w64 xs)) (hd : ∀ d ∈ xs, d < Num.B64) (i : Nat) (hi : i < xs.length) :
    ∃ b off, A = some ⟨b, off, none⟩ ∧ b < w.heap.size ∧ w.cell? ⟨b, off + i, none⟩ = some (.int .u64 ((Num.dg Num.B64 (Num.le Num.B64 xs) i : Nat) : Int)) := by
  obtain ⟨b, off, e, hc⟩ := hs.at_ (w64_ne (by omega))
  refine ⟨b, off, e, block_lt_of_cell (hc 0 _ (w64_get xs 0 (by omega))), ?_⟩
  rw [Num.dg_le Num.B64 xs i hd, List.getD_eq_getElem?_getD, List.getElem?_eq_getElem hi, Option.getD_some]
  exact hc i _ (w64_get xs i hi)
set_option maxRecDepth 100000 in
set_option maxHeartbeats 4000000 in
theorem natAnd_any (Ax Ay : Option Addr) (cx cy0 : Nat) (xs ys : List Nat) (h3 : xs.length ≤ 100000) (h4 : ys.length ≤ 100000) (hdx : ∀ d ∈ xs, d < Num.B64) (hdy : ∀ d ∈ ys, d < Num.B64) (w : World) (hs : Sl w Ax cx (w64 xs)) (ht : Sl w Ay cy0 (w64 ys)) :
    Calls Try.prog 103 #[.slice none 0 0, .slice Ax xs.length cx, .slice Ay ys.length cy0] w (RetNat w (Num.le Num.B64 xs &&& Num.le Num.B64 ys)) := by
  obtain ⟨m, hm, hmx, hmy, hcase⟩ : ∃ m : Nat, m = min xs.length ys.length ∧ m ≤ xs.length ∧ m ≤ ys.length ∧ ((ys.length < xs.length ∧ m = ys.length) ∨ (¬ ys.length < xs.length ∧ m = xs.length)) := ⟨min xs.length ys.length, rfl, by omega, by omega, by omega⟩
  have hmk := make_nil m (by omega) w
  have HMK := Lib.hid hmk
  have HS := Lib.hid (And.intro hs hdx)
  have HT := Lib.hid (And.intro ht hdy)
  have hS : Num.le Num.B64 xs &&& Num.le Num.B64 ys < Num.B64 ^ m := by
    have e1 := Num.le_lt Num.B64 Num.B64_pos xs hdx
    have e2 := Num.le_lt Num.B64 Num.B64_pos ys hdy
    rcases hcase with ⟨_, e⟩ | ⟨_, e⟩
    · rw [e]; exact Nat.lt_of_le_of_lt Nat.and_le_right e2
    · rw [e]; exact Nat.lt_of_le_of_lt Nat.and_le_left e1
  have HSS := Lib.hid hS
  clear hs ht hdx hdy hmk hS hm
  generalize hX : Num.le Num.B64 xs = X at *
  generalize hY : Num.le Num.B64 ys = Y at *
  have HX := Lib.hid hX
  have HY := Lib.hid hY
  clear hX hY
  rcases hcase with ⟨n1, hme⟩ | ⟨n1, hme⟩
  · subst hme
    go_enter Try.func103, Try.ntmps103
    go_wp2_with fail
    refine (HMK.out).mono ?_
    rintro e w1 (⟨h0, rfl, rfl⟩ | ⟨h0, cap, hc1, hc2, rfl, hrow, hbw⟩)
    · have hS0 : (X &&& Y) = 0 := by have := HSS.out; rw [h0, Nat.pow_zero] at this; omega
      have HS0 := Lib.hid hS0
      have HNO := Lib.hid (norm_any none 0 [] (by simp) w1 (Sl.nil w1))
      clear hS0
      go_wp2_with fail
      refine wp_loop_rounds 1 ?_
      rw [rounds_succ]
      go_wp2_with fail
      refine (HNO.out).mono ?_
      rintro e w5 ⟨rfl, rfl⟩
      go_wp2_with fail
      go_ret
      exact ⟨none, 0, [], rfl, Sl.nil _, (fun a h => by cases h), by rw [HS0.out]; exact ⟨Num.Can.nil _, rfl⟩, Below.refl _ _⟩
    · have hr0 : w1.rowIs w.heap.size 106 cap (wv (X &&& Y) 0 (fun _ => .int .u64 0)) := by rw [wv_zero]; exact hrow
      have HC : Hid (ys.length ≤ cap ∧ cap ≤ 1000000) := Lib.hid ⟨by omega, by omega⟩
      clear hrow
      go_wp2_with fail
      go_loopw [9] (fun iv wr => ∃ i : Nat, iv = .int .i64 i ∧ i ≤ ys.length ∧ wr.rowIs w.heap.size 106 cap (wv (X &&& Y) i (fun _ => .int .u64 0)) ∧ Kept w wr) (fun iv _ => ys.length - (intOf iv).toNat)
      case atStart => exact ⟨0, rfl, Nat.zero_le _, hr0, hbw⟩
      case round =>
        obtain ⟨i, rfl, hi, hri, hbr⟩ := hrel
        by_cases hlt : i < ys.length
        · obtain ⟨b1, o1, rfl, hb1, q1⟩ := word_cell HS.out.1 HS.out.2 i (by omega)
          obtain ⟨b2, o2, rfl, hb2, q2⟩ := word_cell HT.out.1 HT.out.2 i (by omega)
          rw [HX.out] at q1
          rw [HY.out] at q2
          have r1 := (hbr.cell (p := ⟨b1, o1 + i, none⟩) hb1).trans q1
          have r2 := (hbr.cell (p := ⟨b2, o2 + i, none⟩) hb2).trans q2
          have hset := fun nq : Nat => (rowIs_drewN hri nq).set i (.int .u64 ((Num.dg Num.B64 (X &&& Y) i : Nat) : Int))
          simp only [wv_set] at hset
          have hcl := hri.cell (i := i) (by have := HC.out; omega)
          have hfr := hri.frozen i
          have hx := Num.dg_lt Num.B64_pos X i
          have hy := Num.dg_lt Num.B64_pos Y i
          have hB : Num.B64 = 18446744073709551616 := rfl
          have hbit : bits .and .u64 ((Num.dg Num.B64 X i : Nat) : Int) ((Num.dg Num.B64 Y i : Nat) : Int) = ((Num.dg Num.B64 (X &&& Y) i : Nat) : Int) := by
            rw [dg_and]; exact u64_and_nat _ _ (by omega) (by omega)
          have hne1 : ⟨b1, o1 + i, none⟩ ≠ (⟨w.heap.size, i, none⟩ : Addr) := fun e => by injection e with e1; omega
          have hne2 : ⟨b2, o2 + i, none⟩ ≠ (⟨w.heap.size, i, none⟩ : Addr) := fun e => by injection e with e1; omega
          have i0 : (0 : Int) ≤ (i : Int) := by omega
          have i1 : (i : Int) < (xs.length : Int) := by omega
          have i2 : (i : Int) < (ys.length : Int) := by omega
          have i3 : (i : Int) < (ys.length : Int) := by omega
          have hbr2 : ∀ nq : Nat, Kept w ((wr.drewN nq).setCell ⟨w.heap.size, i, none⟩ (.int .u64 ((Num.dg Num.B64 (X &&& Y) i : Nat) : Int))) := fun nq => (below_drewN hbr nq).setCell (Nat.le_refl _) _
          have HSET := Lib.hid (hset 1)
          have HBR2 := Lib.hid (hbr2 1)
          have s1 : ∀ v : Value, (wr.drew.setCell ⟨w.heap.size, i, none⟩ v).cell? ⟨b1, o1 + i, none⟩ = some (.int .u64 ((Num.dg Num.B64 X i : Nat) : Int)) := fun v => (World.cell?_setCell_other _ _ _ _ (Ne.symm hne1)).trans r1
          have s2 : ∀ v : Value, (wr.drew.setCell ⟨w.heap.size, i, none⟩ v).cell? ⟨b2, o2 + i, none⟩ = some (.int .u64 ((Num.dg Num.B64 Y i : Nat) : Int)) := fun v => (World.cell?_setCell_other _ _ _ _ (Ne.symm hne2)).trans r2
          clear hset hri hbr hx hy hB q1 q2 hb1 hb2 hbr2
          generalize Num.dg Num.B64 X i = x at *
          generalize Num.dg Num.B64 Y i = y at *
          generalize Num.dg Num.B64 (X &&& Y) i = z at *
          generalize wv (X &&& Y) i (fun _ => Value.int .u64 0) i = old at *
          go_wp2_with fail
          go_region_held3 (fun Z : World => Z.cell? ⟨b1, o1 + i, none⟩ = some (.int .u64 (x : Int)) ∧ Z.cell? ⟨b2, o2 + i, none⟩ = some (.int .u64 (y : Int)))
            (first | exact ⟨r1, r2⟩ | exact ⟨s1 _, s2 _⟩ | go_keep) (fail)
          go_wp2_with fail
          exact ⟨⟨i + 1, by go_num, by omega, HSET.out, HBR2.out⟩, by simp [intOf]; omega⟩
        · obtain rfl : i = ys.length := by omega
          have hSl := ww_row hri (fun j hj => by unfold wv; rw [if_pos hj]) (by have := HC.out; omega) (by unfold maxLen; have := HC.out; omega)
          have hNO := norm_any (some ⟨w.heap.size, 0, none⟩) cap (ww (X &&& Y) (ys.length)) (by simp [ww]; omega) _ hSl
          have hwl : (ww (X &&& Y) (ys.length)).length = ys.length := by simp [ww]
          rw [hwl] at hNO
          have hRN := RetNat.of_ww hri (fun j hj => by unfold wv; rw [if_pos hj]) (by have := HC.out; omega) (by unfold maxLen; have := HC.out; omega) HSS.out hbr
          have HNO := Lib.hid hNO
          have HRN := Lib.hid hRN
          clear hSl hNO hwl hRN
          go_wp2_with fail
          refine (HNO.out).mono ?_
          rintro e w5 ⟨rfl, rfl⟩
          go_wp2_with fail
          go_ret
          exact HRN.out
  · subst hme
    go_enter Try.func103, Try.ntmps103
    go_wp2_with fail
    refine (HMK.out).mono ?_
    rintro e w1 (⟨h0, rfl, rfl⟩ | ⟨h0, cap, hc1, hc2, rfl, hrow, hbw⟩)
    · have hS0 : (X &&& Y) = 0 := by have := HSS.out; rw [h0, Nat.pow_zero] at this; omega
      have HS0 := Lib.hid hS0
      have HNO := Lib.hid (norm_any none 0 [] (by simp) w1 (Sl.nil w1))
      clear hS0
      go_wp2_with fail
      refine wp_loop_rounds 1 ?_
      rw [rounds_succ]
      go_wp2_with fail
      refine (HNO.out).mono ?_
      rintro e w5 ⟨rfl, rfl⟩
      go_wp2_with fail
      go_ret
      exact ⟨none, 0, [], rfl, Sl.nil _, (fun a h => by cases h), by rw [HS0.out]; exact ⟨Num.Can.nil _, rfl⟩, Below.refl _ _⟩
    · have hr0 : w1.rowIs w.heap.size 106 cap (wv (X &&& Y) 0 (fun _ => .int .u64 0)) := by rw [wv_zero]; exact hrow
      have HC : Hid (xs.length ≤ cap ∧ cap ≤ 1000000) := Lib.hid ⟨by omega, by omega⟩
      clear hrow
      go_wp2_with fail
      go_loopw [9] (fun iv wr => ∃ i : Nat, iv = .int .i64 i ∧ i ≤ xs.length ∧ wr.rowIs w.heap.size 106 cap (wv (X &&& Y) i (fun _ => .int .u64 0)) ∧ Kept w wr) (fun iv _ => xs.length - (intOf iv).toNat)
      case atStart => exact ⟨0, rfl, Nat.zero_le _, hr0, hbw⟩
      case round =>
        obtain ⟨i, rfl, hi, hri, hbr⟩ := hrel
        by_cases hlt : i < xs.length
        · obtain ⟨b1, o1, rfl, hb1, q1⟩ := word_cell HS.out.1 HS.out.2 i (by omega)
          obtain ⟨b2, o2, rfl, hb2, q2⟩ := word_cell HT.out.1 HT.out.2 i (by omega)
          rw [HX.out] at q1
          rw [HY.out] at q2
          have r1 := (hbr.cell (p := ⟨b1, o1 + i, none⟩) hb1).trans q1
          have r2 := (hbr.cell (p := ⟨b2, o2 + i, none⟩) hb2).trans q2
          have hset := fun nq : Nat => (rowIs_drewN hri nq).set i (.int .u64 ((Num.dg Num.B64 (X &&& Y) i : Nat) : Int))
          simp only [wv_set] at hset
          have hcl := hri.cell (i := i) (by have := HC.out; omega)
          have hfr := hri.frozen i
          have hx := Num.dg_lt Num.B64_pos X i
          have hy := Num.dg_lt Num.B64_pos Y i
          have hB : Num.B64 = 18446744073709551616 := rfl
          have hbit : bits .and .u64 ((Num.dg Num.B64 X i : Nat) : Int) ((Num.dg Num.B64 Y i : Nat) : Int) = ((Num.dg Num.B64 (X &&& Y) i : Nat) : Int) := by
            rw [dg_and]; exact u64_and_nat _ _ (by omega) (by omega)
          have hne1 : ⟨b1, o1 + i, none⟩ ≠ (⟨w.heap.size, i, none⟩ : Addr) := fun e => by injection e with e1; omega
          have hne2 : ⟨b2, o2 + i, none⟩ ≠ (⟨w.heap.size, i, none⟩ : Addr) := fun e => by injection e with e1; omega
          have i0 : (0 : Int) ≤ (i : Int) := by omega
          have i1 : (i : Int) < (xs.length : Int) := by omega
          have i2 : (i : Int) < (ys.length : Int) := by omega
          have i3 : (i : Int) < (xs.length : Int) := by omega
          have hbr2 : ∀ nq : Nat, Kept w ((wr.drewN nq).setCell ⟨w.heap.size, i, none⟩ (.int .u64 ((Num.dg Num.B64 (X &&& Y) i : Nat) : Int))) := fun nq => (below_drewN hbr nq).setCell (Nat.le_refl _) _
          have HSET := Lib.hid (hset 1)
          have HBR2 := Lib.hid (hbr2 1)
          have s1 : ∀ v : Value, (wr.drew.setCell ⟨w.heap.size, i, none⟩ v).cell? ⟨b1, o1 + i, none⟩ = some (.int .u64 ((Num.dg Num.B64 X i : Nat) : Int)) := fun v => (World.cell?_setCell_other _ _ _ _ (Ne.symm hne1)).trans r1
          have s2 : ∀ v : Value, (wr.drew.setCell ⟨w.heap.size, i, none⟩ v).cell? ⟨b2, o2 + i, none⟩ = some (.int .u64 ((Num.dg Num.B64 Y i : Nat) : Int)) := fun v => (World.cell?_setCell_other _ _ _ _ (Ne.symm hne2)).trans r2
          clear hset hri hbr hx hy hB q1 q2 hb1 hb2 hbr2
          generalize Num.dg Num.B64 X i = x at *
          generalize Num.dg Num.B64 Y i = y at *
          generalize Num.dg Num.B64 (X &&& Y) i = z at *
          generalize wv (X &&& Y) i (fun _ => Value.int .u64 0) i = old at *
          go_wp2_with fail
          go_region_held3 (fun Z : World => Z.cell? ⟨b1, o1 + i, none⟩ = some (.int .u64 (x : Int)) ∧ Z.cell? ⟨b2, o2 + i, none⟩ = some (.int .u64 (y : Int)))
            (first | exact ⟨r1, r2⟩ | exact ⟨s1 _, s2 _⟩ | go_keep) (fail)
          go_wp2_with fail
          exact ⟨⟨i + 1, by go_num, by omega, HSET.out, HBR2.out⟩, by simp [intOf]; omega⟩
        · obtain rfl : i = xs.length := by omega
          have hSl := ww_row hri (fun j hj => by unfold wv; rw [if_pos hj]) (by have := HC.out; omega) (by unfold maxLen; have := HC.out; omega)
          have hNO := norm_any (some ⟨w.heap.size, 0, none⟩) cap (ww (X &&& Y) (xs.length)) (by simp [ww]; omega) _ hSl
          have hwl : (ww (X &&& Y) (xs.length)).length = xs.length := by simp [ww]
          rw [hwl] at hNO
          have hRN := RetNat.of_ww hri (fun j hj => by unfold wv; rw [if_pos hj]) (by have := HC.out; omega) (by unfold maxLen; have := HC.out; omega) HSS.out hbr
          have HNO := Lib.hid hNO
          have HRN := Lib.hid hRN
          clear hSl hNO hwl hRN
          go_wp2_with fail
          refine (HNO.out).mono ?_
          rintro e w5 ⟨rfl, rfl⟩
          go_wp2_with fail
          go_ret
          exact HRN.out
end Go.Proofs.Ytikjdibngkcpkaa
