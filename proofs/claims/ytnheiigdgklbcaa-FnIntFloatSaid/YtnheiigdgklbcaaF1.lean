/- Words shifted to the left in place. -/
import Derived.Test.YtnheiigdgklbcaaNe
import Derived.Deep.RegionHeld3
import Derived.Laws.BitsAllLaws
namespace Go.Proofs.Ytnheiigdgklbcaa
open Go.ChangeShapes Go.WideShapes Go.ChangeAt Go.RowKit
set_option linter.unusedVariables false
theorem dg_shr (X i s : Nat) (hs : 1 ≤ s) (hs2 : s < 64) : Num.dg Num.B64 (X / 2 ^ s) i = Num.dg Num.B64 X i / 2 ^ s + Num.dg Num.B64 X (i + 1) * 2 ^ (64 - s) % 2 ^ 64 := by
  unfold Num.dg
  have hB : Num.B64 = 2 ^ 64 := by decide
  rw [hB]
  have e1 : X / 2 ^ s / (2 ^ 64) ^ i = X / (2 ^ 64) ^ i / 2 ^ s := by rw [Nat.div_div_eq_div_mul, Nat.div_div_eq_div_mul, Nat.mul_comm]
  have e2 : X / (2 ^ 64) ^ (i + 1) = X / (2 ^ 64) ^ i / 2 ^ 64 := by rw [Nat.pow_succ, Nat.div_div_eq_div_mul]
  rw [e1, e2]
  generalize X / (2 ^ 64) ^ i = Y
  have e3 : (2 : Nat) ^ 64 = 2 ^ s * 2 ^ (64 - s) := by rw [← Nat.pow_add, show s + (64 - s) = 64 by omega]
  have h1 := Nat.div_add_mod Y (2 ^ 64)
  have e4 : (Y / 2 ^ 64 % 2 ^ 64) * 2 ^ (64 - s) % 2 ^ 64 = (Y / 2 ^ 64) % 2 ^ s * 2 ^ (64 - s) := by
    rw [e3]
    generalize 2 ^ (64 - s) = t
    generalize Y / (2 ^ s * t) = W
    rw [Nat.mul_mod_mul_right, Nat.mod_mul_right_mod]
  rw [e4]
  have e5 : Y / 2 ^ s = Y % 2 ^ 64 / 2 ^ s + Y / 2 ^ 64 * 2 ^ (64 - s) := by
    conv => lhs; rw [← h1, e3, Nat.mul_assoc, Nat.mul_comm (2 ^ s), Nat.mul_comm (2 ^ (64 - s)), Nat.add_comm, Nat.add_mul_div_right _ _ (Nat.two_pow_pos s)]
    rw [← e3]
  have e6 : Y % 2 ^ 64 / 2 ^ s < 2 ^ (64 - s) := by
    rw [Nat.div_lt_iff_lt_mul (Nat.two_pow_pos s), Nat.mul_comm, ← e3]
    exact Nat.mod_lt _ (Nat.two_pow_pos 64)
  rw [e5]
  have e7 : (Y % 2 ^ 64 / 2 ^ s + Y / 2 ^ 64 * 2 ^ (64 - s)) % 2 ^ 64 = Y % 2 ^ 64 / 2 ^ s + Y / 2 ^ 64 % 2 ^ s * 2 ^ (64 - s) := by
    have h2 := Nat.div_add_mod (Y / 2 ^ 64) (2 ^ s)
    have h3 := Nat.mod_lt (Y / 2 ^ 64) (Nat.two_pow_pos s)
    generalize Y / 2 ^ 64 % 2 ^ s = r at *
    generalize Y / 2 ^ 64 / 2 ^ s = q at *
    rw [← h2]
    have e8 : Y % 2 ^ 64 / 2 ^ s + (2 ^ s * q + r) * 2 ^ (64 - s) = (Y % 2 ^ 64 / 2 ^ s + r * 2 ^ (64 - s)) + 2 ^ 64 * q := by
      rw [Nat.add_mul, e3, Nat.mul_right_comm]
      omega
    rw [e8, Nat.add_mul_mod_self_left]
    apply Nat.mod_eq_of_lt
    have h4 : (r + 1) * 2 ^ (64 - s) ≤ 2 ^ s * 2 ^ (64 - s) := Nat.mul_le_mul_right _ (by omega)
    rw [← e3, Nat.add_mul, Nat.one_mul] at h4
    omega
  rw [e7]
theorem or_shr (x y s : Nat) (hx : x < 2 ^ 64) (hs1 : 1 ≤ s) (hs2 : s < 64) : (x / 2 ^ s) ||| (y * 2 ^ (64 - s) % 2 ^ 64) = x / 2 ^ s + y * 2 ^ (64 - s) % 2 ^ 64 := by
  have e3 : (2 : Nat) ^ 64 = 2 ^ s * 2 ^ (64 - s) := by rw [← Nat.pow_add, show s + (64 - s) = 64 by omega]
  have e4 : y * 2 ^ (64 - s) % 2 ^ 64 = 2 ^ (64 - s) * (y % 2 ^ s) := by
    rw [e3, Nat.mul_mod_mul_right, Nat.mul_comm]
  have e6 : x / 2 ^ s < 2 ^ (64 - s) := by
    rw [Nat.div_lt_iff_lt_mul (Nat.two_pow_pos s), Nat.mul_comm, ← e3]
    exact hx
  rw [e4, Nat.or_comm, ← Nat.two_pow_add_eq_or_of_lt e6, Nat.add_comm]
theorem shr_u64 (x s : Nat) (hs : s < 64) : Op.shift .shr .u64 (x : Int) .u64 (s : Int) = pure (.int .u64 ((x / 2 ^ s : Nat) : Int)) := by
  rw [shift_shr_any _ _ _ _ (by omega)]
  have e : min ((s : Int).toNat) IntKind.u64.bits = s := by show min _ 64 = s; omega
  rw [e]
  simp
theorem shl_u64 (x s : Nat) (hs : s < 64) : Op.shift .shl .u64 (x : Int) .u64 (s : Int) = pure (.int .u64 ((x * 2 ^ s % 2 ^ 64 : Nat) : Int)) := by
  rw [shift_shl_any _ _ _ _ (by omega)]
  have e : min ((s : Int).toNat) IntKind.u64.bits = s := by show min _ 64 = s; omega
  rw [e, IntKind.wrap_u64]
  simp
theorem and63 (s : Nat) (hs : s < 64) : bits .and .u64 (s : Int) 63 = (s : Int) := by
  have := u64_and_nat s 63 (by omega) (by omega)
  rw [show (63 : Int) = ((63 : Nat) : Int) by rfl, this]
  have h2 : s &&& 63 = s % 2 ^ 6 := Nat.and_two_pow_sub_one_eq_mod s 6
  rw [h2, Nat.mod_eq_of_lt (by omega)]
theorem dg_shl (X i s : Nat) (hs : 1 ≤ s) (hs2 : s < 64) : Num.dg Num.B64 (X * 2 ^ s) (i + 1) = Num.dg Num.B64 X i / 2 ^ (64 - s) + Num.dg Num.B64 X (i + 1) * 2 ^ s % 2 ^ 64 := by
  have h := dg_shr (X * 2 ^ 64) (i + 1) (64 - s) (by omega) (by omega)
  have e : X * 2 ^ 64 / 2 ^ (64 - s) = X * 2 ^ s := by
    rw [show (2 : Nat) ^ 64 = 2 ^ s * 2 ^ (64 - s) by rw [← Nat.pow_add, show s + (64 - s) = 64 by omega], ← Nat.mul_assoc, Nat.mul_div_cancel _ (Nat.two_pow_pos _)]
  have d : ∀ j, Num.dg Num.B64 (X * 2 ^ 64) (j + 1) = Num.dg Num.B64 X j := fun j => by
    have hg : ∀ B : Nat, 0 < B → X * B / B ^ (j + 1) % B = X / B ^ j % B := fun B hB => by
      rw [Nat.pow_succ, Nat.mul_comm (B ^ j), ← Nat.div_div_eq_div_mul, Nat.mul_div_cancel _ hB]
    unfold Num.dg
    rw [show Num.B64 = 2 ^ 64 by decide]
    exact hg _ (Nat.two_pow_pos 64)
  rw [e, d, d, show 64 - (64 - s) = s by omega] at h
  exact h
theorem dg_shl0 (X s : Nat) (hs2 : s < 64) : Num.dg Num.B64 (X * 2 ^ s) 0 = Num.dg Num.B64 X 0 * 2 ^ s % 2 ^ 64 := by
  unfold Num.dg
  rw [show Num.B64 = 2 ^ 64 by decide, Nat.pow_zero, Nat.div_one, Nat.div_one, Nat.mod_mul_mod]
/-- the row when its words from m on, below n, are those of D -/
def wu (D n m : Nat) (f : Nat → Value) (j : Nat) : Value := if m ≤ j ∧ j < n then .int .u64 ((Num.dg Num.B64 D j : Nat) : Int) else f j
theorem wu_set (D n m : Nat) (hm : m < n) (f : Nat → Value) : (fun j => if j = m then Value.int .u64 ((Num.dg Num.B64 D m : Nat) : Int) else wu D n (m + 1) f j) = wu D n m f := by
  funext j
  unfold wu
  by_cases h : j = m
  · subst h; rw [if_pos rfl, if_pos ⟨by omega, hm⟩]
  · rw [if_neg h]
    by_cases h2 : m ≤ j ∧ j < n
    · rw [if_pos h2, if_pos ⟨by omega, h2.2⟩]
    · rw [if_neg h2, if_neg (fun h3 => h2 ⟨by omega, h3.2⟩)]
theorem wu_last (D n : Nat) (f : Nat → Value) : wu D n n f = f := by funext j; unfold wu; rw [if_neg (by omega)]
theorem wu_low (D n m : Nat) (f : Nat → Value) (j : Nat) (h : j < m) : wu D n m f j = f j := by unfold wu; rw [if_neg (by omega)]
def LshP (w : World) (g cap n D : Nat) (f : Nat → Value) (e : Ending) (w' : World) : Prop := ∃ k : Int, e = .returned (.int .u64 k) ∧ w'.rowIs g 100 cap (wu D n 0 f) ∧ w.grownBy w' (some g)
set_option maxRecDepth 100000 in
set_option maxHeartbeats 4000000 in
theorem lshVUg_any (g cap n Lc X s : Nat) (hs1 : 1 ≤ s) (hs2 : s < 64) (f : Nat → Value) (hn1 : 1 ≤ n) (hn : n ≤ cap) (hcap : cap ≤ 1000000) (hf : ∀ j, j < n → f j = .int .u64 ((Num.dg Num.B64 X j : Nat) : Int)) (w : World) (hr : w.rowIs g 100 cap f) :
    Calls Try.prog 76 #[.slice (some ⟨g, 0, none⟩) n Lc, .slice (some ⟨g, 0, none⟩) n Lc, .int .u64 (s : Int)] w (LshP w g cap n (X * 2 ^ s) f) := by
  have n0 : ¬ ((n : Int) = 0) := by omega
  have n1 : (0 : Int) < (n : Int) := by omega
  have s0 : ¬ ((s : Int) = 0) := by omega
  have hb1 := and63 s hs2
  have hb2 : IntKind.u64.wrap (64 - (s : Int)) = ((64 - s : Nat) : Int) := by rw [IntKind.wrap_u64]; omega
  have hb3 := and63 (64 - s) (by omega)
  have hshl : ∀ x : Nat, Op.shift .shl .u64 (x : Int) .u64 (s : Int) = pure (.int .u64 ((x * 2 ^ s % 2 ^ 64 : Nat) : Int)) := fun x => shl_u64 x s hs2
  have hshr : ∀ x : Nat, Op.shift .shr .u64 (x : Int) .u64 ((64 - s : Nat) : Int) = pure (.int .u64 ((x / 2 ^ (64 - s) : Nat) : Int)) := fun x => shr_u64 x (64 - s) (by omega)
  have HDG : Hid (∀ i, bits .or .u64 ((Num.dg Num.B64 X (i + 1) : Int) * 2 ^ s % 18446744073709551616) ((Num.dg Num.B64 X i : Int) / 2 ^ (64 - s)) = ((Num.dg Num.B64 (X * 2 ^ s) (i + 1) : Nat) : Int)) := Lib.hid (fun i => by
    have e1 : ((Num.dg Num.B64 X i : Int) / 2 ^ (64 - s)) = ((Num.dg Num.B64 X i / 2 ^ (64 - s) : Nat) : Int) := by simp
    have e2 : ((Num.dg Num.B64 X (i + 1) : Int) * 2 ^ s % 18446744073709551616) = ((Num.dg Num.B64 X (i + 1) * 2 ^ s % 2 ^ 64 : Nat) : Int) := by simp
    rw [e1, e2]
    have hB : Num.B64 = 18446744073709551616 := rfl
    have h1 := Num.dg_lt Num.B64_pos X i
    have h2 : Num.dg Num.B64 X i / 2 ^ (64 - s) ≤ Num.dg Num.B64 X i := Nat.div_le_self _ _
    have h3 : Num.dg Num.B64 X (i + 1) * 2 ^ s % 2 ^ 64 < 2 ^ 64 := Nat.mod_lt _ (by decide)
    have h4 := or_shr (Num.dg Num.B64 X i) (Num.dg Num.B64 X (i + 1)) (64 - s) (by omega) (by omega) (by omega)
    rw [show 64 - (64 - s) = s by omega] at h4
    rw [u64_or_nat _ _ (by omega) (by omega), Nat.or_comm, h4, ← dg_shl X i s hs1 hs2])
  have HLAST : Hid (((Num.dg Num.B64 X 0 : Nat) : Int) * 2 ^ s % 18446744073709551616 = ((Num.dg Num.B64 (X * 2 ^ s) 0 : Nat) : Int)) := Lib.hid (by
    rw [dg_shl0 X s hs2]
    simp)
  have HF := Lib.hid hf
  have HR := Lib.hid hr
  obtain ⟨q, rfl⟩ : ∃ q, n = q + 1 := ⟨n - 1, by omega⟩
  have hcl : w.cell? ⟨g, q, none⟩ = some (.int .u64 ((Num.dg Num.B64 X q : Nat) : Int)) := by
    have := hr.cell (i := q) (by omega)
    rwa [hf q (by omega)] at this
  have i0 : (0 : Int) ≤ (q : Int) := by omega
  have i1 : ((q + 1 : Nat) : Int) - 1 = (q : Int) := by omega
  have i2 : (q : Int) < ((q + 1 : Nat) : Int) := by omega
  have i3 : (q : Int) + 1 - 1 = (q : Int) := by omega
  have i4 : (q : Int) < (q : Int) + 1 := by omega
  have hqq : (q : Int) ≤ 1000000 := by omega
  generalize hTT : 64 - s = T at *
  generalize hD : X * 2 ^ s = D at *
  clear hr hs1 hs2 hTT hD hf
  go_enter Try.func76, Try.ntmps76
  go_wp2_with fail
  clear hcl
  go_loopw [8] (fun iv wr => ∃ i : Nat, iv = .int .i64 (i : Int) ∧ i < q + 1 ∧ wr.rowIs g 100 cap (wu D (q + 1) (i + 1) f) ∧ w.grownBy wr (some g)) (fun iv _ => (intOf iv).toNat)
  case atStart => exact ⟨q, by first | rfl | go_num, by omega, by rw [wu_last]; exact HR.out, World.grownBy.refl w _⟩
  case round =>
    obtain ⟨i, rfl, hi, hri, hgi⟩ := hrel
    have hx1 : wr.cell? ⟨g, i, none⟩ = some (.int .u64 ((Num.dg Num.B64 X i : Nat) : Int)) := by
      have := hri.cell (i := i) (by omega)
      rwa [wu_low _ _ _ _ _ (by omega), HF.out i (by omega)] at this
    rcases i with _ | j
    · have hl := Lib.hid HLAST.out
      have hfr := hri.frozen 0
      have hset := hri.set 0 (.int .u64 ((Num.dg Num.B64 D 0 : Nat) : Int))
      rw [wu_set _ _ _ (by omega)] at hset
      have HSET := Lib.hid hset
      have HGS := Lib.hid (only_set hgi 0 (.int .u64 ((Num.dg Num.B64 D 0 : Nat) : Int)))
      have j4 : (0 : Int) < (q : Int) + 1 := by omega
      clear hset hri hgi HDG HLAST
      generalize Num.dg Num.B64 X 0 = x at *
      generalize Num.dg Num.B64 D 0 = d at *
      go_wp2_with fail
      rw [hl.out]
      go_ret
      exact ⟨_, rfl, HSET.out, HGS.out⟩
    · have hx2 : wr.cell? ⟨g, j, none⟩ = some (.int .u64 ((Num.dg Num.B64 X j : Nat) : Int)) := by
        have := hri.cell (i := j) (by omega)
        rwa [wu_low _ _ _ _ _ (by omega), HF.out j (by omega)] at this
      have hor := Lib.hid (HDG.out j)
      have hfr := hri.frozen (j + 1)
      have hset := World.rowIs.set (w := wr.drew) hri (j + 1) (.int .u64 ((Num.dg Num.B64 D (j + 1) : Nat) : Int))
      rw [wu_set _ _ _ (by omega)] at hset
      have HSET := Lib.hid hset
      have HGS := Lib.hid (only_set (W := wr.drew) ⟨hgi.os, hgi.tape, hgi.output, hgi.size, hgi.block⟩ (j + 1) (.int .u64 ((Num.dg Num.B64 D (j + 1) : Nat) : Int)))
      have j0 : (0 : Int) ≤ (j : Int) := by omega
      have j1 : (j : Int) + 1 < (q : Int) + 1 := by omega
      have j5 : (j : Int) < (q : Int) + 1 := by omega
      have j3 : (0 : Int) ≤ (j : Int) + 1 := by omega
      have j6 : (0 : Int) < (j : Int) + 1 := by omega
      have hwj : IntKind.i64.wrap (j : Int) = (j : Int) := by rw [IntKind.wrap_i64]; omega
      have hwk : wrap64 (j : Int) = (j : Int) := by unfold wrap64; omega
      clear hset hri hgi HLAST
      generalize Num.dg Num.B64 X (j + 1) = x at *
      generalize Num.dg Num.B64 X j = y at *
      generalize Num.dg Num.B64 D (j + 1) = d at *
      go_wp2_with fail
      refine wp_region_lastL _ _ _ (by simp only [List.dropLast]; rfl) (by simp only [List.getLast?_cons_cons, List.getLast?_singleton]; rfl) (fun Z : World => Z.cell? ⟨g, j + 1, none⟩ = some (.int .u64 (x : Int)) ∧ Z.cell? ⟨g, j, none⟩ = some (.int .u64 (y : Int))) (by kernel_rfl) (by kernel_rfl) (⟨hx1, hx2⟩) (fun hHeld => ?_)
      refine wpAnyH_take (i := 0) (oi := ?o0x0) (v := ?v0x0) ?hi0x0 (by kernel_rfl) (by kernel_rfl) (by kernel_rfl) ?hQ0x0 ?hy0x0 (by assumption) ?rest0x0
      case hi0x0 => (simp only [List.getElem?_toArray, List.getElem?_cons_zero]; rfl)
      case hQ0x0 => exact fun _ _ _ h => h
      case hy0x0 => (refine Or.inl ⟨by rfl, ?_⟩; intro W hSw; (try dsimp only at hSw); go_simp; (try with_reducible rfl))
      try simp only [Act.put, List.setIfInBounds_toArray, List.set_cons_zero, List.set_cons_succ]
      refine wpAnyH_take (i := 1) (oi := ?o1x1) (v := ?v1x1) ?hi1x1 (by kernel_rfl) (by kernel_rfl) (by kernel_rfl) ?hQ1x1 ?hy1x1 (by assumption) ?rest1x1
      case hi1x1 => (simp only [List.getElem?_toArray, List.getElem?_cons_succ, List.getElem?_cons_zero]; rfl)
      case hQ1x1 => exact fun _ _ _ h => h
      case hy1x1 => (refine Or.inl ⟨by rfl, ?_⟩; intro W hSw; (try dsimp only at hSw); go_simp; (try with_reducible rfl))
      try simp only [Act.put, List.setIfInBounds_toArray, List.set_cons_zero, List.set_cons_succ]
      refine wpAnyH_take (i := 2) (oi := ?o2x2) (v := ?v2x2) ?hi2x2 (by kernel_rfl) (by kernel_rfl) (by kernel_rfl) ?hQ2x2 ?hy2x2 (by assumption) ?rest2x2
      case hi2x2 => (simp only [List.getElem?_toArray, List.getElem?_cons_succ, List.getElem?_cons_zero]; rfl)
      case hQ2x2 => exact fun _ _ _ h => h
      case hy2x2 => (refine Or.inl ⟨by rfl, ?_⟩; intro W hSw; (try dsimp only at hSw); go_simp; (try with_reducible rfl))
      try simp only [Act.put, List.setIfInBounds_toArray, List.set_cons_zero, List.set_cons_succ]
      refine wpAnyH_take (i := 3) (oi := ?o3x3) (v := ?v3x3) ?hi3x3 (by kernel_rfl) (by kernel_rfl) (by kernel_rfl) ?hQ3x3 ?hy3x3 (by assumption) ?rest3x3
      case hi3x3 => (simp only [List.getElem?_toArray, List.getElem?_cons_succ, List.getElem?_cons_zero]; rfl)
      case hQ3x3 => exact fun _ _ _ h => h
      case hy3x3 => (refine Or.inl ⟨by rfl, ?_⟩; intro W hSw; (try dsimp only at hSw); go_simp; (try with_reducible rfl))
      try simp only [Act.put, List.setIfInBounds_toArray, List.set_cons_zero, List.set_cons_succ]
      refine wpAnyH_take (i := 4) (oi := ?o4x4) (v := ?v4x4) ?hi4x4 (by kernel_rfl) (by kernel_rfl) (by kernel_rfl) ?hQ4x4 ?hy4x4 (by assumption) ?rest4x4
      case hi4x4 => (simp only [List.getElem?_toArray, List.getElem?_cons_succ, List.getElem?_cons_zero]; rfl)
      case hQ4x4 => exact fun _ _ _ h => h
      case hy4x4 => (refine Or.inl ⟨by rfl, ?_⟩; intro W hSw; (try dsimp only at hSw); go_simp; (try with_reducible rfl))
      try simp only [Act.put, List.setIfInBounds_toArray, List.set_cons_zero, List.set_cons_succ]
      refine wpAnyH_take (i := 5) (oi := ?o5x5) (v := ?v5x5) ?hi5x5 (by kernel_rfl) (by kernel_rfl) (by kernel_rfl) ?hQ5x5 ?hy5x5 (by assumption) ?rest5x5
      case hi5x5 => (simp only [List.getElem?_toArray, List.getElem?_cons_succ, List.getElem?_cons_zero]; rfl)
      case hQ5x5 => exact fun _ _ _ h => h
      case hy5x5 => (refine Or.inl ⟨by rfl, ?_⟩; intro W hSw; (try dsimp only at hSw); go_simp; (try with_reducible rfl))
      try simp only [Act.put, List.setIfInBounds_toArray, List.set_cons_zero, List.set_cons_succ]
      refine wpAnyH_take (i := 6) (oi := ?o6x6) (v := ?v6x6) ?hi6x6 (by kernel_rfl) (by kernel_rfl) (by kernel_rfl) ?hQ6x6 ?hy6x6 (by assumption) ?rest6x6
      case hi6x6 => (simp only [List.getElem?_toArray, List.getElem?_cons_succ, List.getElem?_cons_zero]; rfl)
      case hQ6x6 => exact fun _ _ _ h => h
      case hy6x6 => (refine Or.inl ⟨by rfl, ?_⟩; intro W hSw; (try dsimp only at hSw); go_simp; (try with_reducible rfl))
      try simp only [Act.put, List.setIfInBounds_toArray, List.set_cons_zero, List.set_cons_succ]
      refine wpAnyH_take (i := 7) (oi := ?o7x7) (v := ?v7x7) ?hi7x7 (by kernel_rfl) (by kernel_rfl) (by kernel_rfl) ?hQ7x7 ?hy7x7 (by assumption) ?rest7x7
      case hi7x7 => (simp only [List.getElem?_toArray, List.getElem?_cons_succ, List.getElem?_cons_zero]; rfl)
      case hQ7x7 => exact fun _ _ _ h => h
      case hy7x7 => (refine Or.inl ⟨by rfl, ?_⟩; intro W hSw; (try dsimp only at hSw); go_simp; (try with_reducible rfl))
      try simp only [Act.put, List.setIfInBounds_toArray, List.set_cons_zero, List.set_cons_succ]
      refine wpAnyH_take (i := 8) (oi := ?o8x8) (v := ?v8x8) ?hi8x8 (by kernel_rfl) (by kernel_rfl) (by kernel_rfl) ?hQ8x8 ?hy8x8 (by assumption) ?rest8x8
      case hi8x8 => (simp only [List.getElem?_toArray, List.getElem?_cons_succ, List.getElem?_cons_zero]; rfl)
      case hQ8x8 => exact fun _ _ _ h => h
      case hy8x8 => (refine Or.inl ⟨by rfl, ?_⟩; intro W hSw; (try dsimp only at hSw); go_simp; (try with_reducible rfl))
      try simp only [Act.put, List.setIfInBounds_toArray, List.set_cons_zero, List.set_cons_succ]
      refine wpAnyH_take (i := 9) (oi := ?o9x9) (v := ?v9x9) ?hi9x9 (by kernel_rfl) (by kernel_rfl) (by kernel_rfl) ?hQ9x9 ?hy9x9 (by assumption) ?rest9x9
      case hi9x9 => (simp only [List.getElem?_toArray, List.getElem?_cons_succ, List.getElem?_cons_zero]; rfl)
      case hQ9x9 => exact fun _ _ _ h => h
      case hy9x9 => (refine Or.inl ⟨by rfl, ?_⟩; intro W hSw; (try dsimp only at hSw); go_simp; (try with_reducible rfl))
      try simp only [Act.put, List.setIfInBounds_toArray, List.set_cons_zero, List.set_cons_succ]
      refine wpAnyH_take (i := 10) (oi := ?o10x10) (v := ?v10x10) ?hi10x10 (by kernel_rfl) (by kernel_rfl) (by kernel_rfl) ?hQ10x10 ?hy10x10 (by assumption) ?rest10x10
      case hi10x10 => (simp only [List.getElem?_toArray, List.getElem?_cons_succ, List.getElem?_cons_zero]; rfl)
      case hQ10x10 => exact fun _ _ _ h => h
      case hy10x10 => (refine Or.inl ⟨by rfl, ?_⟩; intro W hSw; (try dsimp only at hSw); go_simp; (try with_reducible rfl))
      try simp only [Act.put, List.setIfInBounds_toArray, List.set_cons_zero, List.set_cons_succ]
      refine wpAnyH_take (i := 11) (oi := ?o11x11) (v := ?v11x11) ?hi11x11 (by kernel_rfl) (by kernel_rfl) (by kernel_rfl) ?hQ11x11 ?hy11x11 (by assumption) ?rest11x11
      case hi11x11 => (simp only [List.getElem?_toArray, List.getElem?_cons_succ, List.getElem?_cons_zero]; rfl)
      case hQ11x11 => exact fun _ _ _ h => h
      case hy11x11 => (refine Or.inl ⟨by rfl, ?_⟩; intro W hSw; (try dsimp only at hSw); go_simp; (try with_reducible rfl))
      try simp only [Act.put, List.setIfInBounds_toArray, List.set_cons_zero, List.set_cons_succ]
      refine wpAnyH_take (i := 12) (oi := ?o12x12) (v := ?v12x12) ?hi12x12 (by kernel_rfl) (by kernel_rfl) (by kernel_rfl) ?hQ12x12 ?hy12x12 (by assumption) ?rest12x12
      case hi12x12 => (simp only [List.getElem?_toArray, List.getElem?_cons_succ, List.getElem?_cons_zero]; rfl)
      case hQ12x12 => exact fun _ _ _ h => h
      case hy12x12 => (refine Or.inl ⟨by rfl, ?_⟩; intro W hSw; (try dsimp only at hSw); go_simp; (try with_reducible rfl))
      try simp only [Act.put, List.setIfInBounds_toArray, List.set_cons_zero, List.set_cons_succ]
      refine wpAnyH_take (i := 13) (oi := ?o13x13) (v := ?v13x13) ?hi13x13 (by kernel_rfl) (by kernel_rfl) (by kernel_rfl) ?hQ13x13 ?hy13x13 (by assumption) ?rest13x13
      case hi13x13 => (simp only [List.getElem?_toArray, List.getElem?_cons_succ, List.getElem?_cons_zero]; rfl)
      case hQ13x13 => exact fun _ _ _ h => h
      case hy13x13 => (refine Or.inl ⟨by rfl, ?_⟩; intro W hSw; (try dsimp only at hSw); go_simp; (try with_reducible rfl))
      try simp only [Act.put, List.setIfInBounds_toArray, List.set_cons_zero, List.set_cons_succ]
      refine wpAnyH_take (i := 14) (oi := ?o14x14) (v := ?v14x14) ?hi14x14 (by kernel_rfl) (by kernel_rfl) (by kernel_rfl) ?hQ14x14 ?hy14x14 (by assumption) ?rest14x14
      case hi14x14 => (simp only [List.getElem?_toArray, List.getElem?_cons_succ, List.getElem?_cons_zero]; rfl)
      case hQ14x14 => exact fun _ _ _ h => h
      case hy14x14 => (refine Or.inl ⟨by rfl, ?_⟩; intro W hSw; (try dsimp only at hSw); go_simp; (try with_reducible rfl))
      try simp only [Act.put, List.setIfInBounds_toArray, List.set_cons_zero, List.set_cons_succ]
      refine wpAnyH_take (i := 15) (oi := ?o15x15) (v := ?v15x15) ?hi15x15 (by kernel_rfl) (by kernel_rfl) (by kernel_rfl) ?hQ15x15 ?hy15x15 (by assumption) ?rest15x15
      case hi15x15 => (simp only [List.getElem?_toArray, List.getElem?_cons_succ, List.getElem?_cons_zero]; rfl)
      case hQ15x15 => exact fun _ _ _ h => h
      case hy15x15 => (refine Or.inl ⟨by rfl, ?_⟩; intro W hSw; (try dsimp only at hSw); go_simp; (try with_reducible rfl))
      try simp only [Act.put, List.setIfInBounds_toArray, List.set_cons_zero, List.set_cons_succ]
      refine wpAnyH_take (i := 16) (oi := ?o16x16) (v := ?v16x16) ?hi16x16 (by kernel_rfl) (by kernel_rfl) (by kernel_rfl) ?hQ16x16 ?hy16x16 (by assumption) ?rest16x16
      case hi16x16 => (simp only [List.getElem?_toArray, List.getElem?_cons_succ, List.getElem?_cons_zero]; rfl)
      case hQ16x16 => exact fun _ _ _ h => h
      case hy16x16 => (refine Or.inl ⟨by rfl, ?_⟩; intro W hSw; (try dsimp only at hSw); go_simp; (try with_reducible rfl))
      try simp only [Act.put, List.setIfInBounds_toArray, List.set_cons_zero, List.set_cons_succ]
      refine wpAnyH_done (by kernel_rfl) ?_ _
      simp only [lastQ]
      simp only [hor.out]
      go_wp2_with fail
      exact ⟨⟨j, by go_num, by omega, HSET.out, HGS.out⟩, by simp [intOf]⟩
set_option maxRecDepth 100000 in
theorem lshVU_any (g cap n Lc X s : Nat) (hs1 : 1 ≤ s) (hs2 : s < 64) (f : Nat → Value) (hn1 : 1 ≤ n) (hn : n ≤ cap) (hcap : cap ≤ 1000000) (hf : ∀ j, j < n → f j = .int .u64 ((Num.dg Num.B64 X j : Nat) : Int)) (w : World) (hr : w.rowIs g 100 cap f) :
    Calls Try.prog 68 #[.slice (some ⟨g, 0, none⟩) n Lc, .slice (some ⟨g, 0, none⟩) n Lc, .int .u64 (s : Int)] w (LshP w g cap n (X * 2 ^ s) f) := by
  have h := Lib.hid (lshVUg_any g cap n Lc X s hs1 hs2 f hn1 hn hcap hf w hr)
  clear hs1 hs2 hn1 hn hcap hf hr
  go_enter Try.func68, Try.ntmps68
  go_wp2_with fail
  refine h.out.mono ?_
  rintro e w1 ⟨k, rfl, h1, h2⟩
  go_wp2_with fail
  go_ret
  exact ⟨k, rfl, h1, h2⟩
end Go.Proofs.Ytnheiigdgklbcaa
