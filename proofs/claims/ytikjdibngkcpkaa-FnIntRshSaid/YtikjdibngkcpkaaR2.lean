import Derived.Test.YtikjdibngkcpkaaR1
namespace Go.Proofs.Ytikjdibngkcpkaa
open Go.ChangeShapes Go.WideShapes Go.ChangeAt Go.RowKit
set_option linter.unusedVariables false
theorem rsh_split (X s q r : Nat) (hq : s / 64 = q) (hr : s % 64 = r) : X / 2 ^ s = X / Num.B64 ^ q / 2 ^ r := by
  have hs : s = 64 * q + r := by omega
  rw [hs, Nat.pow_add, B64_pow, Nat.div_div_eq_div_mul]
theorem rsh_small {X n q : Nat} (hX : X < Num.B64 ^ n) (h : n ≤ q) (r : Nat) : X / Num.B64 ^ q / 2 ^ r = 0 := by
  have h1 : X < Num.B64 ^ q := Nat.lt_of_lt_of_le hX (Nat.pow_le_pow_right Num.B64_pos h)
  rw [Nat.div_eq_of_lt h1, Nat.zero_div]
theorem rsh_fits {X n q : Nat} (hX : X < Num.B64 ^ n) (h : q ≤ n) (r : Nat) : X / Num.B64 ^ q < Num.B64 ^ (n - q) ∧ X / Num.B64 ^ q / 2 ^ r < Num.B64 ^ (n - q) := by
  have h1 : X / Num.B64 ^ q < Num.B64 ^ (n - q) := by
    rw [Nat.div_lt_iff_lt_mul (Nat.pow_pos Num.B64_pos), ← Nat.pow_add, show n - q + q = n by omega]
    exact hX
  exact ⟨h1, Nat.lt_of_le_of_lt (Nat.div_le_self _ _) h1⟩
set_option maxRecDepth 100000 in
set_option maxHeartbeats 4000000 in
theorem natRsh_new (Ax : Option Addr) (cx : Nat) (xs : List Nat) (X s : Nat) (hsl : s < 18446744073709551616) (h3 : xs.length ≤ 100000) (hl : LW xs X) (w : World) (hs : Sl w Ax cx (w64 xs)) :
    Calls Try.prog 101 #[.slice none 0 0, .slice Ax xs.length cx, .int .u64 (s : Int)] w (RetNat w (X / 2 ^ s)) := by
  have hcx := hs.cap
  rw [w64_len] at hcx
  by_cases hs0 : s = 0
  · subst hs0
    have HST : Hid (∀ W : World, Kept w W → Calls Try.prog 108 #[.slice none 0 0, .slice Ax xs.length cx] W (RetWs W xs)) := Lib.hid fun W hk => set_any Ax cx xs (by omega) W (hs.below hk)
    have HL : Hid (LW xs (X / 2 ^ 0)) := Lib.hid (by rw [Nat.pow_zero, Nat.div_one]; exact hl)
    clear hl hs
    go_enter Try.func101, Try.ntmps101
    go_wp2_with fail
    refine (same_nil Ax xs.length cx w).mono ?_
    rintro e w1 ⟨rfl, m1, rfl⟩
    go_wp2_with fail
    refine (alias_nil Ax xs.length cx _).mono ?_
    rintro e w2 ⟨rfl, m2, rfl⟩
    have hkk : Kept w ((w.drewN m1).drewN m2) := below_drewN (below_drewN (Below.refl _ _) m1) m2
    generalize (w.drewN m1).drewN m2 = w2 at *
    go_wp2_with fail
    refine (HST.out w2 hkk).mono ?_
    rintro e w3 ⟨A3, c3, rfl, hs3, hf3, hk3⟩
    have R3 := Lib.hid (And.intro hs3 (And.intro hf3 hk3))
    clear hs3 hf3 hk3
    go_wp2_with fail
    go_ret
    refine ⟨A3, c3, xs, rfl, R3.out.1, fun a ha => ?_, HL.out, hkk.trans R3.out.2.2⟩
    have := R3.out.2.1 a ha
    exact ⟨Nat.le_trans hkk.size this.1, this.2⟩
  · have hn0 : ((s : Int) == 0) = false := by rw [beq_eq_false_iff_ne]; omega
    have hn0' : ¬ ((s : Int) = 0) := by omega
    obtain ⟨q, hq⟩ : ∃ q, s / 64 = q := ⟨_, rfl⟩
    obtain ⟨r, hr⟩ : ∃ r, s % 64 = r := ⟨_, rfl⟩
    have hD := rsh_split X s q r hq hr
    have hqI : (s : Int) / 64 = (q : Int) := by omega
    have hqT : (s : Int).tdiv 64 = (q : Int) := by rw [Int.tdiv_eq_ediv_of_nonneg (by omega)]; exact hqI
    have hrI : (s : Int) % 64 = (r : Int) := by omega
    have hrT : (s : Int).tmod 64 = (r : Int) := by rw [Int.tmod_eq_emod_of_nonneg (by omega)]; exact hrI
    have hwq : IntKind.i64.wrap (q : Int) = (q : Int) := by rw [IntKind.wrap_i64]; omega
    have hXb := Num.le_lt Num.B64 Num.B64_pos xs hl.1.1
    rw [hl.2] at hXb
    have hcells := src_cells hs hl.1.1
    rw [hl.2] at hcells
    rw [hD]
    have hr64 : r < 64 := by omega
    by_cases hnq : xs.length ≤ q
    · have hz := rsh_small hXb hnq r
      rw [hz]
      have hle : (xs.length : Int) - (q : Int) ≤ 0 := by omega
      have hwd : IntKind.i64.wrap ((xs.length : Int) - (q : Int)) = (xs.length : Int) - (q : Int) := by rw [IntKind.wrap_i64]; omega
      clear hcells hl hs hD hz hXb
      go_enter Try.func101, Try.ntmps101
      go_wp2_with fail
      go_ret
      exact ⟨none, 0, [], rfl, Sl.nil _, (fun a h => by cases h), ⟨Num.Can.nil _, rfl⟩, Below.refl _ _⟩
    · have hqn : q < xs.length := by omega
      have hf := rsh_fits hXb (Nat.le_of_lt hqn) r
      obtain ⟨k, hk⟩ : ∃ k, xs.length - q = k := ⟨_, rfl⟩
      rw [hk] at hf
      have hkI : (xs.length : Int) - (q : Int) = (k : Int) := by omega
      have hwk : IntKind.i64.wrap (k : Int) = (k : Int) := by rw [IntKind.wrap_i64]; omega
      have hqI2 : (xs.length : Int) - (k : Int) = (q : Int) := by omega
      have hle : ¬ ((k : Int) ≤ 0) := by omega
      have hle2 : ¬ (k ≤ 0) := by omega
      have hle3 : ¬ (k = 0) := by omega
      have hslx : ∀ wx : World, (Instr.slice 98 (.slice Ax xs.length cx) (some (.int .i64 (q : Int))) none none).run Try.prog wx = .ok (.slice (cutA Ax q cx) k (cx - q)) wx := fun wx => by
        have := run_lo98 Ax xs.length cx q (Nat.le_of_lt hqn) wx
        rwa [hk] at this
      obtain ⟨sb, so, hcut, hsb, hcell⟩ := hcells q hqn
      have HCELL := Lib.hid hcell
      have HF := Lib.hid hf
      have HMK := Lib.hid (make_nil k (by omega) w)
      have hdd : ∀ j, Num.dg Num.B64 X (q + j) = Num.dg Num.B64 (X / Num.B64 ^ q) j := fun j => dg_add Num.B64 X q j
      have HDD := Lib.hid hdd
      rw [hcut] at hslx
      clear hcells hcell hl hs hD hXb hf hdd hcut
      generalize hY : X / Num.B64 ^ q = Y at *
      clear hY
      by_cases hr0 : r = 0
      · subst hr0
        have hr0I : ((0 : Nat) : Int) = 0 := rfl
        rw [hr0I] at hrI hrT
        rw [Nat.pow_zero, Nat.div_one] at *
        go_enter Try.func101, Try.ntmps101
        go_wp2_with fail
        refine (HMK.out).mono ?_
        rintro e w1 (⟨h0, rfl, rfl⟩ | ⟨h0, cap, hc1, hc2, rfl, hrow, hbw⟩)
        · exact absurd h0 hle3
        have hsrc : ∀ j, j < k → w1.cell? ⟨sb, so + j, none⟩ = some ((fun t => Value.int .u64 ((Num.dg Num.B64 X (q + t) : Nat) : Int)) j) := fun j hj => (hbw.cell (p := ⟨sb, so + j, none⟩) hsb).trans (HCELL.out j (by omega))
        have HSRC := Lib.hid hsrc
        have HROW := Lib.hid hrow
        have HBW := Lib.hid hbw
        clear hrow hbw hsrc
        go_wp2_with (refine wpList_copy_row rfl (.tmp 40) (.tmp 45) 98 98 rfl 106 Try.underlying98 size_word _ _ _ _ _ _ rfl rfl w.heap.size 0 k cap 106 (fun _ => .int .u64 0) (fun t => Value.int .u64 ((Num.dg Num.B64 X (q + t) : Nat) : Int)) HROW.out (Nat.min_self _).symm (fun _ => ⟨rfl, sb, so, rfl, HSRC.out⟩) (by omega) (fun _ _ => rfl) ?_; intro w2 hr2 hg2; have HR2 := Lib.hid hr2; have HK2 : Hid (Kept w w2) := Lib.hid (kept_of_only (B := w.heap.size) HBW.out (g := w.heap.size) hg2 (Nat.le_refl _) HBW.out.size); clear hr2 hg2; have hf4 : ∀ j, j < k → (if 0 ≤ j ∧ j < 0 + k then (fun t => Value.int .u64 ((Num.dg Num.B64 X (q + t) : Nat) : Int)) (j - 0) else (fun _ => Value.int .u64 0) j) = .int .u64 ((Num.dg Num.B64 Y j : Nat) : Int) := fun j hj => (by rw [if_pos ⟨Nat.zero_le _, by omega⟩, ← HDD.out j]; rfl); have hSl := ww_row HR2.out hf4 hc1 (by unfold maxLen; omega); have hNO := norm_any (some ⟨w.heap.size, 0, none⟩) cap (ww Y k) (by simp [ww]; omega) _ hSl; have hwl : (ww Y k).length = k := (by simp [ww]); rw [hwl] at hNO; have HRN := Lib.hid (RetNat.of_ww HR2.out hf4 hc1 (by unfold maxLen; omega) HF.out.1 HK2.out); have HNO := Lib.hid hNO; clear hSl hNO hf4 hwl)
        refine (HNO.out).mono ?_
        rintro e w5 ⟨rfl, rfl⟩
        go_wp2_with fail
        go_ret
        exact HRN.out
      · have hrne : ((r : Int) == 0) = false := by rw [beq_eq_false_iff_ne]; omega
        have hrne' : ¬ ((r : Int) = 0) := by omega
        go_enter Try.func101, Try.ntmps101
        go_wp2_with fail
        refine (HMK.out).mono ?_
        rintro e w1 (⟨h0, rfl, rfl⟩ | ⟨h0, cap, hc1, hc2, rfl, hrow, hbw⟩)
        · exact absurd h0 hle3
        have HVU : Hid (Calls Try.prog 122 #[.slice (some ⟨w.heap.size, 0, none⟩) k cap, .slice (some ⟨sb, so, none⟩) k (cx - q), .int .u64 (r : Int)] w1 (RshP w1 w.heap.size cap k (Y / 2 ^ r) (fun _ => .int .u64 0))) := Lib.hid
          (rshVU_any _ _ _ _ _ _ _ _ _ _ (rshVUg_any w.heap.size cap k (some ⟨sb, so, none⟩) cap (cx - q) Y r (by omega) hr64 (fun _ => .int .u64 0) (by omega) hc1 (by omega) HF.out.1 w1 hrow (fun m j wr h1 h2 h3 h4 =>
            ⟨sb, so, rfl, by
              rw [← HDD.out j]
              exact h3.cell ((hbw.cell (p := ⟨sb, so + j, none⟩) hsb).trans (HCELL.out j (by omega))) (by simp; omega)⟩)))
        have HROW := Lib.hid hrow
        have HBW := Lib.hid hbw
        clear hrow hbw
        go_wp2_with fail
        refine (HVU.out).mono ?_
        rintro e w2 ⟨kv, rfl, hr2, hg2⟩
        have hk2 : Kept w w2 := kept_of_only (B := w.heap.size) HBW.out (g := w.heap.size) hg2 (Nat.le_refl _) HBW.out.size
        have hf4 : ∀ j, j < k → wv (Y / 2 ^ r) k (fun _ => .int .u64 0) j = .int .u64 ((Num.dg Num.B64 (Y / 2 ^ r) j : Nat) : Int) := fun j hj => by unfold wv; rw [if_pos hj]
        have hSl := ww_row hr2 hf4 hc1 (by unfold maxLen; omega)
        have hNO := norm_any (some ⟨w.heap.size, 0, none⟩) cap (ww (Y / 2 ^ r) k) (by simp [ww]; omega) _ hSl
        have hwl : (ww (Y / 2 ^ r) k).length = k := by simp [ww]
        rw [hwl] at hNO
        have HRN := Lib.hid (RetNat.of_ww hr2 hf4 hc1 (by unfold maxLen; omega) HF.out.2 hk2)
        have HNO := Lib.hid hNO
        clear hSl hNO hr2 hg2 hf4 hwl hk2
        go_wp2_with fail
        refine (HNO.out).mono ?_
        rintro e w5 ⟨rfl, rfl⟩
        go_wp2_with fail
        go_ret
        exact HRN.out
end Go.Proofs.Ytikjdibngkcpkaa
