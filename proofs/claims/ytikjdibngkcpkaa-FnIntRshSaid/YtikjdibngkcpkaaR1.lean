import Derived.Test.YtikjdibngkcpkaaLa
import Derived.Test.YtikjdibngkcpkaaW8
namespace Go.Proofs.Ytikjdibngkcpkaa
open Go.ChangeShapes Go.WideShapes Go.ChangeAt Go.RowKit
set_option linter.unusedVariables false
/-- a slice of words can be read, from word m on, while m words of row g are laid -/
def ReadsHi (w : World) (g : Nat) (A : Option Addr) (n X : Nat) (P : Nat → World → Prop) : Prop :=
  ∀ m j wr, m ≤ j → j < n → w.grownBy wr (some g) → P m wr → ∃ b off, A = some ⟨b, off, none⟩ ∧ wr.cell? ⟨b, off + j, none⟩ = some (.int .u64 ((Num.dg Num.B64 X j : Nat) : Int))
theorem dg_shr (X i s : Nat) (hs : 1 ≤ s) (hs2 : s < 64) : Num.dg Num.B64 (X / 2 ^ s) i = Num.dg Num.B64 X i / 2 ^ s + Num.dg Num.B64 X (i + 1) * 2 ^ (64 - s) % 2 ^ 64 := by
  unfold Num.dg
  have hB : Num.B64 = 2 ^ 64 := by decide
  rw [hB]
  have e1 : X / 2 ^ s / (2 ^ 64) ^ i = X / (2 ^ 64) ^ i / 2 ^ s := by rw [Nat.div_div_eq_div_mul, Nat.div_div_eq_div_mul, Nat.mul_comm]
  have e2 : X / (2 ^ 64) ^ (i + 1) = X / (2 ^ 64) ^ i / 2 ^ 64 := by rw [Nat.pow_succ, Nat.div_div_eq_div_mul]
  rw [e1, e2]
  generalize X / (2 ^ 64) ^ i = Y
  have e3 : (2 : Nat) ^ 64 = 2 ^ s * 2 ^ (64 - s) := by rw [← Nat.pow_add, show s + (64 - s) = 64 by omega]
  have h1 := Nat.div_add_mod Y (2 ^ 64)
  have e4 : (Y / 2 ^ 64 % 2 ^ 64) * 2 ^ (64 - s) % 2 ^ 64 = (Y / 2 ^ 64) % 2 ^ s * 2 ^ (64 - s) := by
    rw [e3]
    generalize 2 ^ (64 - s) = t
    generalize Y / (2 ^ s * t) = W
    rw [Nat.mul_mod_mul_right, Nat.mod_mul_right_mod]
  rw [e4]
  have e5 : Y / 2 ^ s = Y % 2 ^ 64 / 2 ^ s + Y / 2 ^ 64 * 2 ^ (64 - s) := by
    conv => lhs; rw [← h1, e3, Nat.mul_assoc, Nat.mul_comm (2 ^ s), Nat.mul_comm (2 ^ (64 - s)), Nat.add_comm, Nat.add_mul_div_right _ _ (Nat.two_pow_pos s)]
    rw [← e3]
  have e6 : Y % 2 ^ 64 / 2 ^ s < 2 ^ (64 - s) := by
    rw [Nat.div_lt_iff_lt_mul (Nat.two_pow_pos s), Nat.mul_comm, ← e3]
    exact Nat.mod_lt _ (Nat.two_pow_pos 64)
  rw [e5]
  have e7 : (Y % 2 ^ 64 / 2 ^ s + Y / 2 ^ 64 * 2 ^ (64 - s)) % 2 ^ 64 = Y % 2 ^ 64 / 2 ^ s + Y / 2 ^ 64 % 2 ^ s * 2 ^ (64 - s) := by
    have h2 := Nat.div_add_mod (Y / 2 ^ 64) (2 ^ s)
    have h3 := Nat.mod_lt (Y / 2 ^ 64) (Nat.two_pow_pos s)
    generalize Y / 2 ^ 64 % 2 ^ s = r at *
    generalize Y / 2 ^ 64 / 2 ^ s = q at *
    rw [← h2]
    have e8 : Y % 2 ^ 64 / 2 ^ s + (2 ^ s * q + r) * 2 ^ (64 - s) = (Y % 2 ^ 64 / 2 ^ s + r * 2 ^ (64 - s)) + 2 ^ 64 * q := by
      rw [Nat.add_mul, e3, Nat.mul_right_comm]
      omega
    rw [e8, Nat.add_mul_mod_self_left]
    apply Nat.mod_eq_of_lt
    have h4 : (r + 1) * 2 ^ (64 - s) ≤ 2 ^ s * 2 ^ (64 - s) := Nat.mul_le_mul_right _ (by omega)
    rw [← e3, Nat.add_mul, Nat.one_mul] at h4
    omega
  rw [e7]
theorem or_shr (x y s : Nat) (hx : x < 2 ^ 64) (hs1 : 1 ≤ s) (hs2 : s < 64) : (x / 2 ^ s) ||| (y * 2 ^ (64 - s) % 2 ^ 64) = x / 2 ^ s + y * 2 ^ (64 - s) % 2 ^ 64 := by
  have e3 : (2 : Nat) ^ 64 = 2 ^ s * 2 ^ (64 - s) := by rw [← Nat.pow_add, show s + (64 - s) = 64 by omega]
  have e4 : y * 2 ^ (64 - s) % 2 ^ 64 = 2 ^ (64 - s) * (y % 2 ^ s) := by
    rw [e3, Nat.mul_mod_mul_right, Nat.mul_comm]
  have e6 : x / 2 ^ s < 2 ^ (64 - s) := by
    rw [Nat.div_lt_iff_lt_mul (Nat.two_pow_pos s), Nat.mul_comm, ← e3]
    exact hx
  rw [e4, Nat.or_comm, ← Nat.two_pow_add_eq_or_of_lt e6, Nat.add_comm]
theorem shr_u64 (x s : Nat) (hs : s < 64) : Op.shift .shr .u64 (x : Int) .u64 (s : Int) = pure (.int .u64 ((x / 2 ^ s : Nat) : Int)) := by
  rw [shift_shr_any _ _ _ _ (by omega)]
  have e : min ((s : Int).toNat) IntKind.u64.bits = s := by show min _ 64 = s; omega
  rw [e]
  simp
theorem shl_u64 (x s : Nat) (hs : s < 64) : Op.shift .shl .u64 (x : Int) .u64 (s : Int) = pure (.int .u64 ((x * 2 ^ s % 2 ^ 64 : Nat) : Int)) := by
  rw [shift_shl_any _ _ _ _ (by omega)]
  have e : min ((s : Int).toNat) IntKind.u64.bits = s := by show min _ 64 = s; omega
  rw [e, IntKind.wrap_u64]
  simp
theorem and63 (s : Nat) (hs : s < 64) : bits .and .u64 (s : Int) 63 = (s : Int) := by
  have := u64_and_nat s 63 (by omega) (by omega)
  rw [show (63 : Int) = ((63 : Nat) : Int) by rfl, this]
  have h2 : s &&& 63 = s % 2 ^ 6 := Nat.and_two_pow_sub_one_eq_mod s 6
  rw [h2, Nat.mod_eq_of_lt (by omega)]
def RshP (w : World) (g cap n D : Nat) (f : Nat → Value) (e : Ending) (w' : World) : Prop := ∃ k : Int, e = .returned (.int .u64 k) ∧ w'.rowIs g 106 cap (wv D n f) ∧ w.grownBy w' (some g)
set_option maxRecDepth 100000 in
set_option maxHeartbeats 4000000 in
theorem rshVUg_any (g cap n : Nat) (A : Option Addr) (Lc c : Nat) (X s : Nat) (hs1 : 1 ≤ s) (hs2 : s < 64) (f : Nat → Value) (hn1 : 1 ≤ n) (hn : n ≤ cap) (hcap : cap ≤ 1000000) (hX : X < Num.B64 ^ n) (w : World) (hr : w.rowIs g 106 cap f)
    (hx : ReadsHi w g A n X (fun m wr => wr.rowIs g 106 cap (wv (X / 2 ^ s) m f))) :
    Calls Try.prog 134 #[.slice (some ⟨g, 0, none⟩) n Lc, .slice A n c, .int .u64 (s : Int)] w (RshP w g cap n (X / 2 ^ s) f) := by
  obtain ⟨b, off, hA, hx0⟩ := hx 0 0 w (Nat.le_refl _) hn1 (World.grownBy.refl w _) (by show w.rowIs g 106 cap (wv (X / 2 ^ s) 0 f); rw [wv_zero]; exact hr)
  have HXX : Hid (∀ m j wr, m ≤ j → j < n → w.grownBy wr (some g) → wr.rowIs g 106 cap (wv (X / 2 ^ s) m f) → wr.cell? ⟨b, off + j, none⟩ = some (.int .u64 ((Num.dg Num.B64 X j : Nat) : Int))) := Lib.hid fun m j wr h1 h2 h3 h4 => by
    obtain ⟨b', off', e, hc⟩ := hx m j wr h1 h2 h3 h4
    rw [hA] at e; injection e with e; injection e with e1 e2; subst e1 e2
    exact hc
  subst hA
  rw [Nat.add_zero] at hx0
  have n0 : ¬ ((n : Int) = 0) := by omega
  have n1 : (0 : Int) < (n : Int) := by omega
  have s0 : ¬ ((s : Int) = 0) := by omega
  have hb1 := and63 s hs2
  have hb2 : IntKind.u64.wrap (64 - (s : Int)) = ((64 - s : Nat) : Int) := by rw [IntKind.wrap_u64]; omega
  have hb3 := and63 (64 - s) (by omega)
  have hshr : ∀ x : Nat, Op.shift .shr .u64 (x : Int) .u64 (s : Int) = pure (.int .u64 ((x / 2 ^ s : Nat) : Int)) := fun x => shr_u64 x s hs2
  have hshl : ∀ x : Nat, Op.shift .shl .u64 (x : Int) .u64 ((64 - s : Nat) : Int) = pure (.int .u64 ((x * 2 ^ (64 - s) % 2 ^ 64 : Nat) : Int)) := fun x => shl_u64 x (64 - s) (by omega)
  have HDG : Hid (∀ i, bits .or .u64 ((Num.dg Num.B64 X i : Int) / 2 ^ s) ((Num.dg Num.B64 X (i + 1) : Int) * 2 ^ (64 - s) % 18446744073709551616) = ((Num.dg Num.B64 (X / 2 ^ s) i : Nat) : Int)) := Lib.hid (fun i => by
    have e1 : ((Num.dg Num.B64 X i : Int) / 2 ^ s) = ((Num.dg Num.B64 X i / 2 ^ s : Nat) : Int) := by simp
    have e2 : ((Num.dg Num.B64 X (i + 1) : Int) * 2 ^ (64 - s) % 18446744073709551616) = ((Num.dg Num.B64 X (i + 1) * 2 ^ (64 - s) % 2 ^ 64 : Nat) : Int) := by simp
    rw [e1, e2]
    have hB : Num.B64 = 18446744073709551616 := rfl
    have h1 := Num.dg_lt Num.B64_pos X i
    have h2 : Num.dg Num.B64 X i / 2 ^ s ≤ Num.dg Num.B64 X i := Nat.div_le_self _ _
    have h3 : Num.dg Num.B64 X (i + 1) * 2 ^ (64 - s) % 2 ^ 64 < 2 ^ 64 := Nat.mod_lt _ (by decide)
    rw [u64_or_nat _ _ (by omega) (by omega), or_shr _ _ s (by omega) hs1 hs2, ← dg_shr X i s hs1 hs2])
  have HLAST : Hid (((Num.dg Num.B64 X (n - 1) : Nat) : Int) / 2 ^ s = ((Num.dg Num.B64 (X / 2 ^ s) (n - 1) : Nat) : Int)) := Lib.hid (by
    have h1 := dg_shr X (n - 1) s hs1 hs2
    have h2 : Num.dg Num.B64 X (n - 1 + 1) = 0 := by
      rw [show n - 1 + 1 = n by omega]
      unfold Num.dg
      rw [Nat.div_eq_of_lt hX]
      rfl
    rw [h2, Nat.zero_mul, Nat.zero_mod, Nat.add_zero] at h1
    rw [h1]
    simp)
  have HR := Lib.hid hr
  generalize hTT : 64 - s = T at *
  generalize hD : X / 2 ^ s = D at *
  clear hx hr hX hs1 hs2 hTT hD
  go_enter Try.func134, Try.ntmps134
  go_wp2_with fail
  go_loopw [8] (fun iv wr => ∃ j : Nat, iv = .int .i64 ((j : Int) + 1) ∧ j + 1 ≤ n ∧ wr.rowIs g 106 cap (wv D j f) ∧ w.grownBy wr (some g)) (fun iv _ => n - (intOf iv).toNat)
  case atStart => exact ⟨0, rfl, hn1, by rw [wv_zero]; exact HR.out, World.grownBy.refl w _⟩
  case round =>
    obtain ⟨j, rfl, hj, hrj, hgj⟩ := hrel
    by_cases hlt : j + 1 < n
    · have hx1 := HXX.out j j wr (Nat.le_refl _) (by omega) hgj hrj
      have hx2 := HXX.out j (j + 1) wr (by omega) hlt hgj hrj
      have hor := Lib.hid (HDG.out j)
      have hcl := hrj.cell (i := j) (by omega)
      have hfr := hrj.frozen j
      have hset := World.rowIs.set (w := wr.drew) hrj j (.int .u64 ((Num.dg Num.B64 D j : Nat) : Int))
      rw [wv_set] at hset
      have HSET := Lib.hid hset
      have HGS := Lib.hid (only_set (W := wr.drew) ⟨hgj.os, hgj.tape, hgj.output, hgj.size, hgj.block⟩ j (.int .u64 ((Num.dg Num.B64 D j : Nat) : Int)))
      have i0 : (0 : Int) ≤ (j : Int) := by omega
      have i1 : (j : Int) + 1 < (n : Int) := by omega
      have i2 : (j : Int) < (n : Int) := by omega
      have i3 : (0 : Int) ≤ (j : Int) + 1 := by omega
      have hwj : IntKind.i64.wrap (j : Int) = (j : Int) := by rw [IntKind.wrap_i64]; omega
      clear hset hrj hgj HXX
      generalize Num.dg Num.B64 X j = x at *
      generalize Num.dg Num.B64 X (j + 1) = y at *
      generalize Num.dg Num.B64 D j = d at *
      generalize wv D j f j = old at *
      go_wp2_with fail
      refine wp_region_lastL _ _ _ (by simp only [List.dropLast]; rfl) (by simp only [List.getLast?_cons_cons, List.getLast?_singleton]; rfl) (fun Z : World => Z.cell? ⟨b, off + j, none⟩ = some (.int .u64 (x : Int)) ∧ Z.cell? ⟨b, off + (j + 1), none⟩ = some (.int .u64 (y : Int))) (by kernel_rfl) (by kernel_rfl) (⟨hx1, hx2⟩) (fun hHeld => ?_)
      refine wpAnyH_take (i := 0) (oi := ?o0x0) (v := ?v0x0) ?hi0x0 (by kernel_rfl) (by kernel_rfl) (by kernel_rfl) ?hQ0x0 ?hy0x0 (by assumption) ?rest0x0
      case hi0x0 => (simp only [List.getElem?_toArray, List.getElem?_cons_zero]; rfl)
      case hQ0x0 => exact fun _ _ _ h => h
      case hy0x0 => (refine Or.inl ⟨by rfl, ?_⟩; intro W hSw; (try dsimp only at hSw); go_simp; (try with_reducible rfl))
      try simp only [Act.put, List.setIfInBounds_toArray, List.set_cons_zero, List.set_cons_succ]
      refine wpAnyH_take (i := 1) (oi := ?o1x1) (v := ?v1x1) ?hi1x1 (by kernel_rfl) (by kernel_rfl) (by kernel_rfl) ?hQ1x1 ?hy1x1 (by assumption) ?rest1x1
      case hi1x1 => (simp only [List.getElem?_toArray, List.getElem?_cons_succ, List.getElem?_cons_zero]; rfl)
      case hQ1x1 => exact fun _ _ _ h => h
      case hy1x1 => (refine Or.inl ⟨by rfl, ?_⟩; intro W hSw; (try dsimp only at hSw); go_simp; (try with_reducible rfl))
      try simp only [Act.put, List.setIfInBounds_toArray, List.set_cons_zero, List.set_cons_succ]
      refine wpAnyH_take (i := 2) (oi := ?o2x2) (v := ?v2x2) ?hi2x2 (by kernel_rfl) (by kernel_rfl) (by kernel_rfl) ?hQ2x2 ?hy2x2 (by assumption) ?rest2x2
      case hi2x2 => (simp only [List.getElem?_toArray, List.getElem?_cons_succ, List.getElem?_cons_zero]; rfl)
      case hQ2x2 => exact fun _ _ _ h => h
      case hy2x2 => (refine Or.inl ⟨by rfl, ?_⟩; intro W hSw; (try dsimp only at hSw); go_simp; (try with_reducible rfl))
      try simp only [Act.put, List.setIfInBounds_toArray, List.set_cons_zero, List.set_cons_succ]
      refine wpAnyH_take (i := 3) (oi := ?o3x3) (v := ?v3x3) ?hi3x3 (by kernel_rfl) (by kernel_rfl) (by kernel_rfl) ?hQ3x3 ?hy3x3 (by assumption) ?rest3x3
      case hi3x3 => (simp only [List.getElem?_toArray, List.getElem?_cons_succ, List.getElem?_cons_zero]; rfl)
      case hQ3x3 => exact fun _ _ _ h => h
      case hy3x3 => (refine Or.inl ⟨by rfl, ?_⟩; intro W hSw; (try dsimp only at hSw); go_simp; (try with_reducible rfl))
      try simp only [Act.put, List.setIfInBounds_toArray, List.set_cons_zero, List.set_cons_succ]
      refine wpAnyH_take (i := 4) (oi := ?o4x4) (v := ?v4x4) ?hi4x4 (by kernel_rfl) (by kernel_rfl) (by kernel_rfl) ?hQ4x4 ?hy4x4 (by assumption) ?rest4x4
      case hi4x4 => (simp only [List.getElem?_toArray, List.getElem?_cons_succ, List.getElem?_cons_zero]; rfl)
      case hQ4x4 => exact fun _ _ _ h => h
      case hy4x4 => (refine Or.inl ⟨by rfl, ?_⟩; intro W hSw; (try dsimp only at hSw); go_simp; (try with_reducible rfl))
      try simp only [Act.put, List.setIfInBounds_toArray, List.set_cons_zero, List.set_cons_succ]
      refine wpAnyH_take (i := 5) (oi := ?o5x5) (v := ?v5x5) ?hi5x5 (by kernel_rfl) (by kernel_rfl) (by kernel_rfl) ?hQ5x5 ?hy5x5 (by assumption) ?rest5x5
      case hi5x5 => (simp only [List.getElem?_toArray, List.getElem?_cons_succ, List.getElem?_cons_zero]; rfl)
      case hQ5x5 => exact fun _ _ _ h => h
      case hy5x5 => (refine Or.inl ⟨by rfl, ?_⟩; intro W hSw; (try dsimp only at hSw); go_simp; (try with_reducible rfl))
      try simp only [Act.put, List.setIfInBounds_toArray, List.set_cons_zero, List.set_cons_succ]
      refine wpAnyH_take (i := 6) (oi := ?o6x6) (v := ?v6x6) ?hi6x6 (by kernel_rfl) (by kernel_rfl) (by kernel_rfl) ?hQ6x6 ?hy6x6 (by assumption) ?rest6x6
      case hi6x6 => (simp only [List.getElem?_toArray, List.getElem?_cons_succ, List.getElem?_cons_zero]; rfl)
      case hQ6x6 => exact fun _ _ _ h => h
      case hy6x6 => (refine Or.inl ⟨by rfl, ?_⟩; intro W hSw; (try dsimp only at hSw); go_simp; (try with_reducible rfl))
      try simp only [Act.put, List.setIfInBounds_toArray, List.set_cons_zero, List.set_cons_succ]
      refine wpAnyH_take (i := 7) (oi := ?o7x7) (v := ?v7x7) ?hi7x7 (by kernel_rfl) (by kernel_rfl) (by kernel_rfl) ?hQ7x7 ?hy7x7 (by assumption) ?rest7x7
      case hi7x7 => (simp only [List.getElem?_toArray, List.getElem?_cons_succ, List.getElem?_cons_zero]; rfl)
      case hQ7x7 => exact fun _ _ _ h => h
      case hy7x7 => (refine Or.inl ⟨by rfl, ?_⟩; intro W hSw; (try dsimp only at hSw); go_simp; (try with_reducible rfl))
      try simp only [Act.put, List.setIfInBounds_toArray, List.set_cons_zero, List.set_cons_succ]
      refine wpAnyH_take (i := 8) (oi := ?o8x8) (v := ?v8x8) ?hi8x8 (by kernel_rfl) (by kernel_rfl) (by kernel_rfl) ?hQ8x8 ?hy8x8 (by assumption) ?rest8x8
      case hi8x8 => (simp only [List.getElem?_toArray, List.getElem?_cons_succ, List.getElem?_cons_zero]; rfl)
      case hQ8x8 => exact fun _ _ _ h => h
      case hy8x8 => (refine Or.inl ⟨by rfl, ?_⟩; intro W hSw; (try dsimp only at hSw); go_simp; (try with_reducible rfl))
      try simp only [Act.put, List.setIfInBounds_toArray, List.set_cons_zero, List.set_cons_succ]
      refine wpAnyH_take (i := 9) (oi := ?o9x9) (v := ?v9x9) ?hi9x9 (by kernel_rfl) (by kernel_rfl) (by kernel_rfl) ?hQ9x9 ?hy9x9 (by assumption) ?rest9x9
      case hi9x9 => (simp only [List.getElem?_toArray, List.getElem?_cons_succ, List.getElem?_cons_zero]; rfl)
      case hQ9x9 => exact fun _ _ _ h => h
      case hy9x9 => (refine Or.inl ⟨by rfl, ?_⟩; intro W hSw; (try dsimp only at hSw); go_simp; (try with_reducible rfl))
      try simp only [Act.put, List.setIfInBounds_toArray, List.set_cons_zero, List.set_cons_succ]
      refine wpAnyH_take (i := 10) (oi := ?o10x10) (v := ?v10x10) ?hi10x10 (by kernel_rfl) (by kernel_rfl) (by kernel_rfl) ?hQ10x10 ?hy10x10 (by assumption) ?rest10x10
      case hi10x10 => (simp only [List.getElem?_toArray, List.getElem?_cons_succ, List.getElem?_cons_zero]; rfl)
      case hQ10x10 => exact fun _ _ _ h => h
      case hy10x10 => (refine Or.inl ⟨by rfl, ?_⟩; intro W hSw; (try dsimp only at hSw); go_simp; (try with_reducible rfl))
      try simp only [Act.put, List.setIfInBounds_toArray, List.set_cons_zero, List.set_cons_succ]
      refine wpAnyH_take (i := 11) (oi := ?o11x11) (v := ?v11x11) ?hi11x11 (by kernel_rfl) (by kernel_rfl) (by kernel_rfl) ?hQ11x11 ?hy11x11 (by assumption) ?rest11x11
      case hi11x11 => (simp only [List.getElem?_toArray, List.getElem?_cons_succ, List.getElem?_cons_zero]; rfl)
      case hQ11x11 => exact fun _ _ _ h => h
      case hy11x11 => (refine Or.inl ⟨by rfl, ?_⟩; intro W hSw; (try dsimp only at hSw); go_simp; (try with_reducible rfl))
      try simp only [Act.put, List.setIfInBounds_toArray, List.set_cons_zero, List.set_cons_succ]
      refine wpAnyH_take (i := 12) (oi := ?o12x12) (v := ?v12x12) ?hi12x12 (by kernel_rfl) (by kernel_rfl) (by kernel_rfl) ?hQ12x12 ?hy12x12 (by assumption) ?rest12x12
      case hi12x12 => (simp only [List.getElem?_toArray, List.getElem?_cons_succ, List.getElem?_cons_zero]; rfl)
      case hQ12x12 => exact fun _ _ _ h => h
      case hy12x12 => (refine Or.inl ⟨by rfl, ?_⟩; intro W hSw; (try dsimp only at hSw); go_simp; (try with_reducible rfl))
      try simp only [Act.put, List.setIfInBounds_toArray, List.set_cons_zero, List.set_cons_succ]
      refine wpAnyH_take (i := 13) (oi := ?o13x13) (v := ?v13x13) ?hi13x13 (by kernel_rfl) (by kernel_rfl) (by kernel_rfl) ?hQ13x13 ?hy13x13 (by assumption) ?rest13x13
      case hi13x13 => (simp only [List.getElem?_toArray, List.getElem?_cons_succ, List.getElem?_cons_zero]; rfl)
      case hQ13x13 => exact fun _ _ _ h => h
      case hy13x13 => (refine Or.inl ⟨by rfl, ?_⟩; intro W hSw; (try dsimp only at hSw); go_simp; (try with_reducible rfl))
      try simp only [Act.put, List.setIfInBounds_toArray, List.set_cons_zero, List.set_cons_succ]
      refine wpAnyH_take (i := 14) (oi := ?o14x14) (v := ?v14x14) ?hi14x14 (by kernel_rfl) (by kernel_rfl) (by kernel_rfl) ?hQ14x14 ?hy14x14 (by assumption) ?rest14x14
      case hi14x14 => (simp only [List.getElem?_toArray, List.getElem?_cons_succ, List.getElem?_cons_zero]; rfl)
      case hQ14x14 => exact fun _ _ _ h => h
      case hy14x14 => (refine Or.inl ⟨by rfl, ?_⟩; intro W hSw; (try dsimp only at hSw); go_simp; (try with_reducible rfl))
      try simp only [Act.put, List.setIfInBounds_toArray, List.set_cons_zero, List.set_cons_succ]
      refine wpAnyH_take (i := 15) (oi := ?o15x15) (v := ?v15x15) ?hi15x15 (by kernel_rfl) (by kernel_rfl) (by kernel_rfl) ?hQ15x15 ?hy15x15 (by assumption) ?rest15x15
      case hi15x15 => (simp only [List.getElem?_toArray, List.getElem?_cons_succ, List.getElem?_cons_zero]; rfl)
      case hQ15x15 => exact fun _ _ _ h => h
      case hy15x15 => (refine Or.inl ⟨by rfl, ?_⟩; intro W hSw; (try dsimp only at hSw); go_simp; (try with_reducible rfl))
      try simp only [Act.put, List.setIfInBounds_toArray, List.set_cons_zero, List.set_cons_succ]
      refine wpAnyH_take (i := 16) (oi := ?o16x16) (v := ?v16x16) ?hi16x16 (by kernel_rfl) (by kernel_rfl) (by kernel_rfl) ?hQ16x16 ?hy16x16 (by assumption) ?rest16x16
      case hi16x16 => (simp only [List.getElem?_toArray, List.getElem?_cons_succ, List.getElem?_cons_zero]; rfl)
      case hQ16x16 => exact fun _ _ _ h => h
      case hy16x16 => (refine Or.inl ⟨by rfl, ?_⟩; intro W hSw; (try dsimp only at hSw); go_simp; (try with_reducible rfl))
      try simp only [Act.put, List.setIfInBounds_toArray, List.set_cons_zero, List.set_cons_succ]
      refine wpAnyH_take (i := 17) (oi := ?o17x17) (v := ?v17x17) ?hi17x17 (by kernel_rfl) (by kernel_rfl) (by kernel_rfl) ?hQ17x17 ?hy17x17 (by assumption) ?rest17x17
      case hi17x17 => (simp only [List.getElem?_toArray, List.getElem?_cons_succ, List.getElem?_cons_zero]; rfl)
      case hQ17x17 => exact fun _ _ _ h => h
      case hy17x17 => (refine Or.inl ⟨by rfl, ?_⟩; intro W hSw; (try dsimp only at hSw); go_simp; (try with_reducible rfl))
      try simp only [Act.put, List.setIfInBounds_toArray, List.set_cons_zero, List.set_cons_succ]
      refine wpAnyH_done (by kernel_rfl) ?_ _
      simp only [lastQ]
      simp only [hor.out]
      go_wp2_with fail
      exact ⟨⟨j + 1, by go_num, by omega, HSET.out, HGS.out⟩, by simp [intOf]; omega⟩
    · have hjn : n = j + 1 := by omega
      have hx1 := HXX.out j j wr (Nat.le_refl _) (by omega) hgj hrj
      have hl := HLAST.out
      rw [show n - 1 = j by omega] at hl
      have HL := Lib.hid hl
      have hcl := hrj.cell (i := j) (by omega)
      have hfr := hrj.frozen j
      have hset := hrj.set j (.int .u64 ((Num.dg Num.B64 D j : Nat) : Int))
      rw [wv_set, ← hjn] at hset
      have HSET := Lib.hid hset
      have HGS := Lib.hid (only_set hgj j (.int .u64 ((Num.dg Num.B64 D j : Nat) : Int)))
      have i0 : (0 : Int) ≤ (j : Int) := by omega
      have i2 : (j : Int) < (n : Int) := by omega
      have i3 : ¬ ((j : Int) + 1 < (n : Int)) := by omega
      have hsn : (n : Int) - 1 = (j : Int) := by omega
      clear hset hrj hgj hl hjn HXX
      generalize Num.dg Num.B64 X j = x at *
      generalize Num.dg Num.B64 D j = d at *
      generalize wv D j f j = old at *
      go_wp2_with fail
      rw [HL.out]
      go_ret
      exact ⟨_, rfl, HSET.out, HGS.out⟩
theorem rshVU_any (g cap n : Nat) (A : Option Addr) (Lc c : Nat) (D s : Nat) (f : Nat → Value) (w : World)
    (h : Calls Try.prog 134 #[.slice (some ⟨g, 0, none⟩) n Lc, .slice A n c, .int .u64 (s : Int)] w (RshP w g cap n D f)) :
    Calls Try.prog 122 #[.slice (some ⟨g, 0, none⟩) n Lc, .slice A n c, .int .u64 (s : Int)] w (RshP w g cap n D f) := by
  have H := Lib.hid h
  clear h
  go_enter Try.func122, Try.ntmps122
  go_wp2_with fail
  refine (H.out).mono ?_
  rintro e w1 ⟨k, rfl, h1, h2⟩
  go_wp2_with fail
  go_ret
  exact ⟨k, rfl, h1, h2⟩
set_option maxRecDepth 100000 in
theorem same_nil (A : Option Addr) (n c : Nat) (w : World) : Calls Try.prog 120 #[.slice none 0 0, .slice A n c] w fun e w' => e = .returned (.bool false) ∧ ∃ m, w' = w.drewN m := by
  by_cases h : n = 0
  · subst h
    go_enter Try.func120, Try.ntmps120
    go_wp2_with fail
    go_quiet (fail)
    go_wp2_with fail
    go_ret
    exact ⟨rfl, _, rfl⟩
  · have h1 : ((0 : Int) == (n : Int)) = false := by rw [beq_eq_false_iff_ne]; omega
    have h2 : ¬ ((0 : Int) = (n : Int)) := by omega
    have h3 : ¬ (0 = n) := by omega
    go_enter Try.func120, Try.ntmps120
    go_wp2_with fail
    go_quiet (fail)
    go_wp2_with fail
    go_ret
    exact ⟨rfl, _, rfl⟩
set_option maxRecDepth 100000 in
theorem alias_nil (A : Option Addr) (n c : Nat) (w : World) : Calls Try.prog 121 #[.slice none 0 0, .slice A n c] w fun e w' => e = .returned (.bool false) ∧ ∃ m, w' = w.drewN m := by
  go_enter Try.func121, Try.ntmps121
  go_wp2_with fail
  go_quiet (fail)
  go_wp2_with fail
  go_ret
  exact ⟨rfl, _, rfl⟩
end Go.Proofs.Ytikjdibngkcpkaa
