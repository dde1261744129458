import Derived.Test.YtikjdibngkcpkaaDoorM2
import Derived.Lib.SliceRun
import Derived.Lib.LazyBuf
namespace Go.Proofs.YtikjdibngkcpkaaDoor
open Go.ChangeShapes Go.WideShapes Go.ChangeAt Go.RowKit
set_option linter.unusedVariables false
theorem cutAs (b off k c : Nat) (hc : c ≠ k) : cutA (some ⟨b, off, none⟩) k c = some ⟨b, off + k, none⟩ := by
  unfold cutA
  rw [if_neg hc]
  by_cases h0 : k = 0
  · subst h0; simp [Addr.add]
  · simp [Addr.add, h0]
theorem run_midN (A : Option Addr) (n c k m : Nat) (hk : k ≤ m) (hm : m ≤ c) (wx : World) :
    (Instr.slice 52 (.slice A n c) (some (.int .i64 (k : Int))) (some (.int .i64 (m : Int))) none).run Tryd.prog wx = .ok (.slice (cutA A k c) (m - k) (c - k)) wx := by
  have h1 : (k : Int) ≤ (m : Int) := by omega
  have h2 : (m : Int) ≤ (c : Int) := by omega
  simp [go_sem, cutA, Tryd.underlying52, h1, h2]
/-- the word i of a slice in a block below g -/
theorem word_at {w : World} {g : Nat} {A : Option Addr} {c : Nat} {xs : List Nat} (hs : Sl w A c (w64 xs)) (hd : ∀ d ∈ xs, d < Num.B64) (hb : ∀ b off, A = some ⟨b, off, none⟩ → b < g) (hg : g ≤ w.heap.size) (i : Nat) (hi : i < xs.length) :
    ∃ b off, A = some ⟨b, off, none⟩ ∧ ∀ wr, Below g w wr → wr.cell? ⟨b, off + i, none⟩ = some (.int .u64 ((Num.dg Num.B64 (Num.le Num.B64 xs) i : Nat) : Int)) := by
  obtain ⟨b, off, rfl, hc⟩ := hs.at_ (w64_ne (by omega))
  refine ⟨b, off, rfl, fun wr hk => ?_⟩
  rw [Num.dg_le Num.B64 xs i hd, List.getD_eq_getElem?_getD, List.getElem?_eq_getElem hi, Option.getD_some]
  exact (hk.cell (p := ⟨b, off + i, none⟩) (hb b off rfl)).trans (hc i _ (w64_get xs i hi))
/-- a round: n words from place i on, and the word behind them -/
theorem bmul_row (X Y n m i j : Nat) (f : Nat → Value) (hX : X < Num.B64 ^ n) (hi : i < m) :
    (if j = i + n then Value.int .u64 ((mc (X * (Y % Num.B64 ^ i) / Num.B64 ^ i) X (Num.dg Num.B64 Y i) 0 n : Nat) : Int) else wo2 (X * (Y % Num.B64 ^ i) / Num.B64 ^ i + X * Num.dg Num.B64 Y i + 0) i n (wv (X * (Y % Num.B64 ^ i)) (n + m) f) j) = wv (X * (Y % Num.B64 ^ (i + 1))) (n + m) f j := by
  have hB := Num.B64_pos
  have hlt := pm_lt X Y n i hX
  have hZ : X * (Y % Num.B64 ^ i) / Num.B64 ^ i < Num.B64 ^ n := by
    rw [Nat.div_lt_iff_lt_mul (Nat.pow_pos hB), ← Nat.pow_add]
    exact hlt
  have hnext := pm_lt X Y n (i + 1) hX
  have hp := pm_step X Y i
  have hhi : ∀ t, Num.dg Num.B64 (X * (Y % Num.B64 ^ (i + 1))) (i + t) = Num.dg Num.B64 (X * (Y % Num.B64 ^ i) / Num.B64 ^ i + X * Num.dg Num.B64 Y i + 0) t := fun t => by
    rw [hp, Nat.add_zero]
    exact pm_high Num.B64 _ _ i t hB
  have hlo : ∀ t, t < i → Num.dg Num.B64 (X * (Y % Num.B64 ^ (i + 1))) t = Num.dg Num.B64 (X * (Y % Num.B64 ^ i)) t := fun t ht => by
    rw [hp]
    exact pm_low Num.B64 _ _ i t hB ht
  have hdg : ∀ SS : Nat, SS / Num.B64 ^ n < Num.B64 → Num.dg Num.B64 SS n = SS / Num.B64 ^ n := fun SS h => by unfold Num.dg; exact Nat.mod_eq_of_lt h
  simp only [wv, wo2]
  by_cases h1 : j = i + n
  · rw [if_pos h1, if_pos (by omega), h1, hhi n, mc_last _ _ _ _ _ hZ hX]
    have h2 := Nat.div_lt_of_lt_mul (show X * (Y % Num.B64 ^ (i + 1)) < Num.B64 ^ (n + i) * Num.B64 by rw [← Nat.pow_succ]; exact hnext)
    have h3 : X * (Y % Num.B64 ^ (i + 1)) / Num.B64 ^ (n + i) = (X * (Y % Num.B64 ^ i) / Num.B64 ^ i + X * Num.dg Num.B64 Y i + 0) / Num.B64 ^ n := by
      rw [hp, Nat.pow_add, Nat.mul_comm (Num.B64 ^ n), ← Nat.div_div_eq_div_mul, Nat.add_mul_div_left _ _ (Nat.pow_pos hB), Nat.add_zero]
    rw [h3] at h2
    rw [hdg _ h2]
  · rw [if_neg h1]
    by_cases h2 : i ≤ j ∧ j < i + n
    · rw [if_pos h2, if_pos (by omega)]
      have := hhi (j - i)
      rw [show i + (j - i) = j by omega] at this
      rw [this]
    · rw [if_neg h2]
      by_cases h3 : j < n + m
      · rw [if_pos h3, if_pos h3]
        by_cases h4 : j < i
        · rw [hlo j h4]
        · have h5 : Num.B64 ^ (n + (i + 1)) ≤ Num.B64 ^ j := Nat.pow_le_pow_right hB (by omega)
          have h6 : Num.B64 ^ (n + i) ≤ Num.B64 ^ j := Nat.pow_le_pow_right hB (by omega)
          have z1 : Num.dg Num.B64 (X * (Y % Num.B64 ^ i)) j = 0 := by unfold Num.dg; rw [Nat.div_eq_of_lt (by omega), Nat.zero_mod]
          have z2 : Num.dg Num.B64 (X * (Y % Num.B64 ^ (i + 1))) j = 0 := by unfold Num.dg; rw [Nat.div_eq_of_lt (by omega), Nat.zero_mod]
          rw [z1, z2]
      · rw [if_neg h3, if_neg h3]
theorem bmul_skip (X Y i : Nat) (h : Num.dg Num.B64 Y i = 0) : X * (Y % Num.B64 ^ (i + 1)) = X * (Y % Num.B64 ^ i) := by
  rw [pm_step, h, Nat.mul_zero, Nat.mul_zero, Nat.add_zero]
theorem zero_word : ∀ w : World, (zeroValue 70).run Tryd.prog w = .ok (.int .u64 0) w := fun _ => by kernel_rfl
set_option maxRecDepth 100000 in
set_option maxHeartbeats 4000000 in
theorem basicMul_any (g cap : Nat) (Ax Ay : Option Addr) (cx cy0 : Nat) (xs ys : List Nat) (f : Nat → Value) (h1 : 0 < xs.length) (h2 : 0 < ys.length) (hnc : xs.length + ys.length ≤ cap) (hcap : cap ≤ 1000000) (hdx : ∀ d ∈ xs, d < Num.B64) (hdy : ∀ d ∈ ys, d < Num.B64) (w : World)
    (hr : w.rowIs g 70 cap f) (hs : Sl w Ax cx (w64 xs)) (ht : Sl w Ay cy0 (w64 ys)) (hbx : ∀ b off, Ax = some ⟨b, off, none⟩ → b < g) (hby : ∀ b off, Ay = some ⟨b, off, none⟩ → b < g) :
    Calls Tryd.prog 47 #[.slice (some ⟨g, 0, none⟩) (xs.length + ys.length) cap, .slice Ax xs.length cx, .slice Ay ys.length cy0] w fun e w' => e = .returned (.tuple #[]) ∧ w'.rowIs g 70 cap (wv (Num.le Num.B64 xs * Num.le Num.B64 ys) (xs.length + ys.length) f) ∧ Below g w w' := by
  obtain ⟨cur0, hb0, hbr0⟩ := id hr
  have hgw : g ≤ w.heap.size := Nat.le_of_lt (Array.getElem?_eq_some_iff.1 hb0).1
  have hXb := Num.le_lt Num.B64 Num.B64_pos xs hdx
  have hYb := Num.le_lt Num.B64 Num.B64_pos ys hdy
  have HXW : Hid (∀ i, i < xs.length → ∃ b off, Ax = some ⟨b, off, none⟩ ∧ ∀ wr, Below g w wr → wr.cell? ⟨b, off + i, none⟩ = some (.int .u64 ((Num.dg Num.B64 (Num.le Num.B64 xs) i : Nat) : Int))) := Lib.hid fun i hi => word_at hs hdx hbx hgw i hi
  have HYW : Hid (∀ i, i < ys.length → ∃ b off, Ay = some ⟨b, off, none⟩ ∧ ∀ wr, Below g w wr → wr.cell? ⟨b, off + i, none⟩ = some (.int .u64 ((Num.dg Num.B64 (Num.le Num.B64 ys) i : Nat) : Int))) := Lib.hid fun i hi => word_at ht hdy hby hgw i hi
  have hsl0 : ∀ wx : World, (Instr.slice 52 (.slice (some ⟨g, 0, none⟩) (xs.length + ys.length) cap) (some (.int .i64 0)) (some (.int .i64 ((xs.length : Int) + (ys.length : Int)))) none).run Tryd.prog wx = .ok (.slice (some ⟨g, 0, none⟩) (xs.length + ys.length) cap) wx := fun wx => by
    have := run_to64 (some ⟨g, 0, none⟩) (xs.length + ys.length) cap (xs.length + ys.length) hnc wx
    rwa [Int.natCast_add] at this
  have hclr := fun ty => Lib.run_clear_slice (P := Tryd.prog) w 52 70 ty (.int .u64 0) Tryd.underlying52 zero_word rfl rfl g 0 (xs.length + ys.length) cap (by omega) (fun j hj => by rw [Nat.zero_add, hr.cell (i := j) (by omega)]; rfl) (fun j hj => hr.frozen _)
  have hrow0 := Go.rowIs_setCells (List.replicate (xs.length + ys.length) (Value.int .u64 0)) 0 w f hr
  have hbel0 := Go.below_setCells (B := g) (Nat.le_refl g) (List.replicate (xs.length + ys.length) (Value.int .u64 0)) 0 w (Below.refl _ _)
  generalize w.setCells g 0 (List.replicate (xs.length + ys.length) (Value.int .u64 0)) = w0 at *
  generalize hX : Num.le Num.B64 xs = X at *
  generalize hY : Num.le Num.B64 ys = Y at *
  have hrow1 : w0.rowIs g 70 cap (wv (X * (Y % Num.B64 ^ 0)) (xs.length + ys.length) f) := hrow0.congr fun j hj => by
    rw [Nat.pow_zero, Nat.mod_one, Nat.mul_zero]
    unfold wv
    by_cases h : j < xs.length + ys.length
    · rw [if_pos ⟨Nat.zero_le _, by rw [List.length_replicate]; omega⟩, if_pos h]
      simp [h, Num.dg]
    · rw [if_neg (by rw [List.length_replicate]; omega), if_neg h]
  have HROW1 := Lib.hid hrow1
  have HBEL0 := Lib.hid hbel0
  have HXB := Lib.hid hXb
  have HYB := Lib.hid hYb
  clear hrow0 hrow1 hbel0 hs ht hbx hby hb0 hbr0 hr hXb hYb hX hY hdx hdy
  have ecast : ((xs.length + ys.length : Nat) : Int) = (xs.length : Int) + (ys.length : Int) := by omega
  go_enter Tryd.func47, Tryd.ntmps47
  go_wp2_with fail
  go_loopw [17] (fun iv wr => ∃ i : Nat, iv = .int .i64 i ∧ i ≤ ys.length ∧ wr.rowIs g 70 cap (wv (X * (Y % Num.B64 ^ i)) (xs.length + ys.length) f) ∧ Below g w wr) (fun iv _ => ys.length - (intOf iv).toNat)
  case atStart => exact ⟨0, rfl, Nat.zero_le _, HROW1.out, HBEL0.out⟩
  case round =>
    obtain ⟨i, rfl, hi, hri, hbr⟩ := hrel
    by_cases hlt : i < ys.length
    · obtain ⟨b2, o2, rfl, hcy⟩ := HYW.out i hlt
      have c2 := hcy wr hbr
      have i0 : (0 : Int) ≤ (i : Int) := by omega
      have i1 : (i : Int) < (ys.length : Int) := by omega
      by_cases hd0 : Num.dg Num.B64 Y i = 0
      · have hskip := bmul_skip X Y i hd0
        rw [hd0] at c2
        have HRI := Lib.hid hri
        have HBR := Lib.hid hbr
        clear hri hbr hcy
        go_wp2_with fail
        exact ⟨⟨i + 1, by go_num, by omega, by rw [hskip]; exact HRI.out, HBR.out⟩, by simp [intOf]; omega⟩
      · have hdl := Num.dg_lt Num.B64_pos Y i
        have hd1 : (((Num.dg Num.B64 Y i : Nat) : Int) != 0) = true := by simp; omega
        have hd2 : ¬ (((Num.dg Num.B64 Y i : Nat) : Int) = 0) := by omega
        have hwa : IntKind.i64.wrap ((i : Int) + (xs.length : Int)) = (i : Int) + (xs.length : Int) := by rw [IntKind.wrap_i64]; omega
        have hwb : IntKind.i64.wrap ((xs.length : Int) + (i : Int)) = (xs.length : Int) + (i : Int) := by rw [IntKind.wrap_i64]; omega
        have hsl1 : ∀ wx : World, (Instr.slice 52 (.slice (some ⟨g, 0, none⟩) (xs.length + ys.length) cap) (some (.int .i64 (i : Int))) (some (.int .i64 ((i : Int) + (xs.length : Int)))) none).run Tryd.prog wx = .ok (.slice (some ⟨g, i, none⟩) xs.length (cap - i)) wx := fun wx => by
          have := run_midN (some ⟨g, 0, none⟩) (xs.length + ys.length) cap i (i + xs.length) (by omega) (by omega) wx
          rwa [cutAs _ _ _ _ (by omega), Nat.zero_add, Nat.add_sub_cancel_left, Int.natCast_add] at this
        have hix : (xs.length : Int) + (i : Int) < (xs.length : Int) + (ys.length : Int) := by omega
        have hix0 : (0 : Int) ≤ (xs.length : Int) + (i : Int) := by omega
        have hixn : ((xs.length : Int) + (i : Int)).toNat = xs.length + i := by omega
        have HMU : Hid (Calls Tryd.prog 60 #[.slice (some ⟨g, i, none⟩) xs.length (cap - i), .slice (some ⟨g, i, none⟩) xs.length (cap - i), .slice Ax xs.length cx, .int .u64 ((Num.dg Num.B64 Y i : Nat) : Int), .int .u64 0] wr.drew (MulP wr.drew g cap i xs.length (X * (Y % Num.B64 ^ i) / Num.B64 ^ i + X * Num.dg Num.B64 Y i + 0) (wv (X * (Y % Num.B64 ^ i)) (xs.length + ys.length) f) (mc (X * (Y % Num.B64 ^ i) / Num.B64 ^ i) X (Num.dg Num.B64 Y i) 0 xs.length))) := Lib.hid
          (addMulVVWW_any _ _ _ _ _ _ _ _ _ _ _ _ (addMulg_any g cap i xs.length (cap - i) Ax cx (X * (Y % Num.B64 ^ i) / Num.B64 ^ i) X (Num.dg Num.B64 Y i) (wv (X * (Y % Num.B64 ^ i)) (xs.length + ys.length) f) (by omega) (by omega) hcap hdl wr.drew (rowIs_heap' hri rfl) (fun j hj => by
            unfold wv
            rw [if_pos (by omega), dg_add']) (fun j wq hj hgq => by
              obtain ⟨b1, o1, e1, hc1⟩ := HXW.out j hj
              exact ⟨b1, o1, e1, hc1 wq (Below.trans (show Below g w wr.drew from ⟨hbr.os, hbr.tape, hbr.output, hbr.size, hbr.block⟩) (kept_of_only (Below.refl _ _) hgq (Nat.le_refl _) (Nat.le_trans hgw hbr.size)))⟩)))
        have HBRD : Hid (Below g w wr.drew) := Lib.hid ⟨hbr.os, hbr.tape, hbr.output, hbr.size, hbr.block⟩
        have hzs : g ≤ wr.heap.size := Nat.le_trans hgw hbr.size
        have HNX := Lib.hid (fun j => bmul_row X Y xs.length ys.length i j f HXB.out hlt)
        clear hri hbr hcy hdl
        generalize mc (X * (Y % Num.B64 ^ i) / Num.B64 ^ i) X (Num.dg Num.B64 Y i) 0 xs.length = kk at *
        generalize X * (Y % Num.B64 ^ i) / Num.B64 ^ i + X * Num.dg Num.B64 Y i + 0 = SS at *
        generalize Num.dg Num.B64 Y i = d at *
        go_wp2_with fail
        refine wp_region_lastL _ _ _ (by simp only [List.dropLast]; rfl) (by simp only [List.getLast?_cons_cons, List.getLast?_singleton]; rfl) (fun _ : World => True) (by kernel_rfl) (by kernel_rfl) (trivial) (fun hHeld => ?_)
        refine wpAnyH_take (i := 0) (oi := ?o0x0) (v := ?v0x0) ?hi0x0 (by kernel_rfl) (by kernel_rfl) (by kernel_rfl) ?hQ0x0 ?hy0x0 (by assumption) ?rest0x0
        case hi0x0 => (simp only [List.getElem?_toArray, List.getElem?_cons_zero]; rfl)
        case hQ0x0 => exact fun _ _ _ h => h
        case hy0x0 => (refine Or.inl ⟨by rfl, ?_⟩; intro W hSw; (try dsimp only at hSw); go_simp; (try with_reducible rfl))
        try simp only [Act.put, List.setIfInBounds_toArray, List.set_cons_zero, List.set_cons_succ]
        refine wpAnyH_take (i := 1) (oi := ?o1x1) (v := ?v1x1) ?hi1x1 (by kernel_rfl) (by kernel_rfl) (by kernel_rfl) ?hQ1x1 ?hy1x1 (by assumption) ?rest1x1
        case hi1x1 => (simp only [List.getElem?_toArray, List.getElem?_cons_succ, List.getElem?_cons_zero]; rfl)
        case hQ1x1 => exact fun _ _ _ h => h
        case hy1x1 => (refine Or.inl ⟨by rfl, ?_⟩; intro W hSw; (try dsimp only at hSw); go_simp; (try with_reducible rfl))
        try simp only [Act.put, List.setIfInBounds_toArray, List.set_cons_zero, List.set_cons_succ]
        refine wpAnyH_take (i := 2) (oi := ?o2x2) (v := ?v2x2) ?hi2x2 (by kernel_rfl) (by kernel_rfl) (by kernel_rfl) ?hQ2x2 ?hy2x2 (by assumption) ?rest2x2
        case hi2x2 => (simp only [List.getElem?_toArray, List.getElem?_cons_succ, List.getElem?_cons_zero]; rfl)
        case hQ2x2 => exact fun _ _ _ h => h
        case hy2x2 => (refine Or.inl ⟨by rfl, ?_⟩; intro W hSw; (try dsimp only at hSw); go_simp; (try with_reducible rfl))
        try simp only [Act.put, List.setIfInBounds_toArray, List.set_cons_zero, List.set_cons_succ]
        refine wpAnyH_take (i := 3) (oi := ?o3x3) (v := ?v3x3) ?hi3x3 (by kernel_rfl) (by kernel_rfl) (by kernel_rfl) ?hQ3x3 ?hy3x3 (by assumption) ?rest3x3
        case hi3x3 => (simp only [List.getElem?_toArray, List.getElem?_cons_succ, List.getElem?_cons_zero]; rfl)
        case hQ3x3 => exact fun _ _ _ h => h
        case hy3x3 => (refine Or.inl ⟨by rfl, ?_⟩; intro W hSw; (try dsimp only at hSw); go_simp; (try with_reducible rfl))
        try simp only [Act.put, List.setIfInBounds_toArray, List.set_cons_zero, List.set_cons_succ]
        refine wpAnyH_take (i := 4) (oi := ?o4x4) (v := ?v4x4) ?hi4x4 (by kernel_rfl) (by kernel_rfl) (by kernel_rfl) ?hQ4x4 ?hy4x4 (by assumption) ?rest4x4
        case hi4x4 => (simp only [List.getElem?_toArray, List.getElem?_cons_succ, List.getElem?_cons_zero]; rfl)
        case hQ4x4 => exact fun _ _ _ h => h
        case hy4x4 => (refine Or.inl ⟨by rfl, ?_⟩; intro W hSw; (try dsimp only at hSw); go_simp; (try with_reducible rfl))
        try simp only [Act.put, List.setIfInBounds_toArray, List.set_cons_zero, List.set_cons_succ]
        refine wpAnyH_take (i := 5) (oi := ?o5x5) (v := ?v5x5) ?hi5x5 (by kernel_rfl) (by kernel_rfl) (by kernel_rfl) ?hQ5x5 ?hy5x5 (by assumption) ?rest5x5
        case hi5x5 => (simp only [List.getElem?_toArray, List.getElem?_cons_succ, List.getElem?_cons_zero]; rfl)
        case hQ5x5 => exact fun _ _ _ h => h
        case hy5x5 => (refine Or.inl ⟨by rfl, ?_⟩; intro W hSw; (try dsimp only at hSw); go_simp; (try with_reducible rfl))
        try simp only [Act.put, List.setIfInBounds_toArray, List.set_cons_zero, List.set_cons_succ]
        refine wpAnyH_take (i := 6) (oi := ?o6x6) (v := ?v6x6) ?hi6x6 (by kernel_rfl) (by kernel_rfl) (by kernel_rfl) ?hQ6x6 ?hy6x6 (by assumption) ?rest6x6
        case hi6x6 => (simp only [List.getElem?_toArray, List.getElem?_cons_succ, List.getElem?_cons_zero]; rfl)
        case hQ6x6 => exact fun _ _ _ h => h
        case hy6x6 => (refine Or.inl ⟨by rfl, ?_⟩; intro W hSw; (try dsimp only at hSw); go_simp; (try with_reducible rfl))
        try simp only [Act.put, List.setIfInBounds_toArray, List.set_cons_zero, List.set_cons_succ]
        refine wpAnyH_take (i := 7) (oi := ?o7x7) (v := ?v7x7) ?hi7x7 (by kernel_rfl) (by kernel_rfl) (by kernel_rfl) ?hQ7x7 ?hy7x7 (by assumption) ?rest7x7
        case hi7x7 => (simp only [List.getElem?_toArray, List.getElem?_cons_succ, List.getElem?_cons_zero]; rfl)
        case hQ7x7 => exact fun _ _ _ h => h
        case hy7x7 => (refine Or.inl ⟨by rfl, ?_⟩; intro W hSw; (try dsimp only at hSw); go_simp; (try with_reducible rfl))
        try simp only [Act.put, List.setIfInBounds_toArray, List.set_cons_zero, List.set_cons_succ]
        refine wpAnyH_take (i := 8) (oi := ?o8x8) (v := ?v8x8) ?hi8x8 (by kernel_rfl) (by kernel_rfl) (by kernel_rfl) ?hQ8x8 ?hy8x8 (by assumption) ?rest8x8
        case hi8x8 => (simp only [List.getElem?_toArray, List.getElem?_cons_succ, List.getElem?_cons_zero]; rfl)
        case hQ8x8 => exact fun _ _ _ h => h
        case hy8x8 => (refine Or.inl ⟨by rfl, ?_⟩; intro W hSw; (try dsimp only at hSw); go_simp; (try with_reducible rfl))
        try simp only [Act.put, List.setIfInBounds_toArray, List.set_cons_zero, List.set_cons_succ]
        refine wpAnyH_take (i := 9) (oi := ?o9x9) (v := ?v9x9) ?hi9x9 (by kernel_rfl) (by kernel_rfl) (by kernel_rfl) ?hQ9x9 ?hy9x9 (by assumption) ?rest9x9
        case hi9x9 => (simp only [List.getElem?_toArray, List.getElem?_cons_succ, List.getElem?_cons_zero]; rfl)
        case hQ9x9 => exact fun _ _ _ h => h
        case hy9x9 => (refine Or.inl ⟨by rfl, ?_⟩; intro W hSw; (try dsimp only at hSw); go_simp; (try with_reducible rfl))
        try simp only [Act.put, List.setIfInBounds_toArray, List.set_cons_zero, List.set_cons_succ]
        refine wpAnyH_take (i := 10) (oi := ?o10x10) (v := ?v10x10) ?hi10x10 (by kernel_rfl) (by kernel_rfl) (by kernel_rfl) ?hQ10x10 ?hy10x10 (by assumption) ?rest10x10
        case hi10x10 => (simp only [List.getElem?_toArray, List.getElem?_cons_succ, List.getElem?_cons_zero]; rfl)
        case hQ10x10 => exact fun _ _ _ h => h
        case hy10x10 => (refine Or.inl ⟨by rfl, ?_⟩; intro W hSw; (try dsimp only at hSw); go_simp; (try with_reducible rfl))
        try simp only [Act.put, List.setIfInBounds_toArray, List.set_cons_zero, List.set_cons_succ]
        refine wpAnyH_take (i := 11) (oi := ?o11x11) (v := ?v11x11) ?hi11x11 (by kernel_rfl) (by kernel_rfl) (by kernel_rfl) ?hQ11x11 ?hy11x11 (by assumption) ?rest11x11
        case hi11x11 => (simp only [List.getElem?_toArray, List.getElem?_cons_succ, List.getElem?_cons_zero]; rfl)
        case hQ11x11 => exact fun _ _ _ h => h
        case hy11x11 => (refine Or.inl ⟨by rfl, ?_⟩; intro W hSw; (try dsimp only at hSw); go_simp; (try with_reducible rfl))
        try simp only [Act.put, List.setIfInBounds_toArray, List.set_cons_zero, List.set_cons_succ]
        refine wpAnyH_take (i := 12) (oi := ?o12x12) (v := ?v12x12) ?hi12x12 (by kernel_rfl) (by kernel_rfl) (by kernel_rfl) ?hQ12x12 ?hy12x12 (by assumption) ?rest12x12
        case hi12x12 => (simp only [List.getElem?_toArray, List.getElem?_cons_succ, List.getElem?_cons_zero]; rfl)
        case hQ12x12 => exact fun _ _ _ h => h
        case hy12x12 => (refine Or.inl ⟨by rfl, ?_⟩; intro W hSw; (try dsimp only at hSw); go_simp; (try with_reducible rfl))
        try simp only [Act.put, List.setIfInBounds_toArray, List.set_cons_zero, List.set_cons_succ]
        refine wpAnyH_take (i := 13) (oi := ?o13x13) (v := ?v13x13) ?hi13x13 (by kernel_rfl) (by kernel_rfl) (by kernel_rfl) ?hQ13x13 ?hy13x13 (by assumption) ?rest13x13
        case hi13x13 => (simp only [List.getElem?_toArray, List.getElem?_cons_succ, List.getElem?_cons_zero]; rfl)
        case hQ13x13 => exact fun _ _ _ h => h
        case hy13x13 => (refine Or.inl ⟨by rfl, ?_⟩; intro W hSw; (try dsimp only at hSw); go_simp; (try with_reducible rfl))
        try simp only [Act.put, List.setIfInBounds_toArray, List.set_cons_zero, List.set_cons_succ]
        refine wpAnyH_take (i := 14) (oi := ?o14x14) (v := ?v14x14) ?hi14x14 (by kernel_rfl) (by kernel_rfl) (by kernel_rfl) ?hQ14x14 ?hy14x14 (by assumption) ?rest14x14
        case hi14x14 => (simp only [List.getElem?_toArray, List.getElem?_cons_succ, List.getElem?_cons_zero]; rfl)
        case hQ14x14 => exact fun _ _ _ h => h
        case hy14x14 => (refine Or.inl ⟨by rfl, ?_⟩; intro W hSw; (try dsimp only at hSw); go_simp; (try with_reducible rfl))
        try simp only [Act.put, List.setIfInBounds_toArray, List.set_cons_zero, List.set_cons_succ]
        refine wpAnyH_take (i := 15) (oi := ?o15x15) (v := ?v15x15) ?hi15x15 (by kernel_rfl) (by kernel_rfl) (by kernel_rfl) ?hQ15x15 ?hy15x15 (by assumption) ?rest15x15
        case hi15x15 => (simp only [List.getElem?_toArray, List.getElem?_cons_succ, List.getElem?_cons_zero]; rfl)
        case hQ15x15 => exact fun _ _ _ h => h
        case hy15x15 => (refine Or.inl ⟨by rfl, ?_⟩; intro W hSw; (try dsimp only at hSw); go_simp; (try with_reducible rfl))
        try simp only [Act.put, List.setIfInBounds_toArray, List.set_cons_zero, List.set_cons_succ]
        refine wpAnyH_take (i := 16) (oi := ?o16x16) (v := ?v16x16) ?hi16x16 (by kernel_rfl) (by kernel_rfl) (by kernel_rfl) ?hQ16x16 ?hy16x16 (by assumption) ?rest16x16
        case hi16x16 => (simp only [List.getElem?_toArray, List.getElem?_cons_succ, List.getElem?_cons_zero]; rfl)
        case hQ16x16 => exact fun _ _ _ h => h
        case hy16x16 => (refine Or.inl ⟨by rfl, ?_⟩; intro W hSw; (try dsimp only at hSw); go_simp; (try with_reducible rfl))
        try simp only [Act.put, List.setIfInBounds_toArray, List.set_cons_zero, List.set_cons_succ]
        refine wpAnyH_take (i := 17) (oi := ?o17x17) (v := ?v17x17) ?hi17x17 (by kernel_rfl) (by kernel_rfl) (by kernel_rfl) ?hQ17x17 ?hy17x17 (by assumption) ?rest17x17
        case hi17x17 => (simp only [List.getElem?_toArray, List.getElem?_cons_succ, List.getElem?_cons_zero]; rfl)
        case hQ17x17 => exact fun _ _ _ h => h
        case hy17x17 => (refine Or.inl ⟨by rfl, ?_⟩; intro W hSw; (try dsimp only at hSw); go_simp; (try with_reducible rfl))
        try simp only [Act.put, List.setIfInBounds_toArray, List.set_cons_zero, List.set_cons_succ]
        refine wpAnyH_take (i := 18) (oi := ?o18x18) (v := ?v18x18) ?hi18x18 (by kernel_rfl) (by kernel_rfl) (by kernel_rfl) ?hQ18x18 ?hy18x18 (by assumption) ?rest18x18
        case hi18x18 => (simp only [List.getElem?_toArray, List.getElem?_cons_succ, List.getElem?_cons_zero]; rfl)
        case hQ18x18 => exact fun _ _ _ h => h
        case hy18x18 => (refine Or.inl ⟨by rfl, ?_⟩; intro W hSw; (try dsimp only at hSw); go_simp; (try with_reducible rfl))
        try simp only [Act.put, List.setIfInBounds_toArray, List.set_cons_zero, List.set_cons_succ]
        refine wpAnyH_take (i := 19) (oi := ?o19x19) (v := ?v19x19) ?hi19x19 (by kernel_rfl) (by kernel_rfl) (by kernel_rfl) ?hQ19x19 ?hy19x19 (by assumption) ?rest19x19
        case hi19x19 => (simp only [List.getElem?_toArray, List.getElem?_cons_succ, List.getElem?_cons_zero]; rfl)
        case hQ19x19 => exact fun _ _ _ h => h
        case hy19x19 => (refine Or.inl ⟨by rfl, ?_⟩; intro W hSw; (try dsimp only at hSw); go_simp; (try with_reducible rfl))
        try simp only [Act.put, List.setIfInBounds_toArray, List.set_cons_zero, List.set_cons_succ]
        refine wpAnyH_take (i := 20) (oi := ?o20x20) (v := ?v20x20) ?hi20x20 (by kernel_rfl) (by kernel_rfl) (by kernel_rfl) ?hQ20x20 ?hy20x20 (by assumption) ?rest20x20
        case hi20x20 => (simp only [List.getElem?_toArray, List.getElem?_cons_succ, List.getElem?_cons_zero]; rfl)
        case hQ20x20 => exact fun _ _ _ h => h
        case hy20x20 => (refine Or.inl ⟨by rfl, ?_⟩; intro W hSw; (try dsimp only at hSw); go_simp; (try with_reducible rfl))
        try simp only [Act.put, List.setIfInBounds_toArray, List.set_cons_zero, List.set_cons_succ]
        refine wpAnyH_ready (rs := [21]) (by kernel_rfl) (by simp) ?_
        refine (AllReadyH.cons rfl (fun K hK => ?_) AllReadyH.nil)
        go_simp
        (with_reducible refine Calls.mono HMU.out ?_)
        rintro e w2 ⟨rfl, hr2, hg2⟩
        refine hK.out _ _ ?_ (fun hHeld => ?_)
        · (trivial)
        clear hK K
        try simp only [Act.put, List.setIfInBounds_toArray, List.set_cons_zero, List.set_cons_succ]
        refine wpAnyH_take (i := 22) (oi := ?o22x21) (v := ?v22x21) ?hi22x21 (by kernel_rfl) (by kernel_rfl) (by kernel_rfl) ?hQ22x21 ?hy22x21 (by assumption) ?rest22x21
        case hi22x21 => (simp only [List.getElem?_toArray, List.getElem?_cons_succ, List.getElem?_cons_zero]; rfl)
        case hQ22x21 => exact fun _ _ _ h => h
        case hy22x21 => (refine Or.inl ⟨by rfl, ?_⟩; intro W hSw; (try dsimp only at hSw); go_simp; (try with_reducible rfl))
        try simp only [Act.put, List.setIfInBounds_toArray, List.set_cons_zero, List.set_cons_succ]
        refine wpAnyH_done (by kernel_rfl) ?_ _
        simp only [lastQ]
        have hcl := hr2.cell (i := xs.length + i) (by omega)
        have hfr := hr2.frozen (xs.length + i)
        have hset : (w2.setCell ⟨g, xs.length + i, none⟩ (.int .u64 (kk : Int))).rowIs g 70 cap (wv (X * (Y % Num.B64 ^ (i + 1))) (xs.length + ys.length) f) := (hr2.set (xs.length + i) (.int .u64 (kk : Int))).congr (fun j _ => by rw [Nat.add_comm xs.length i]; exact HNX.out j)
        have HSET := Lib.hid hset
        have HB2 : Hid (Below g w (w2.setCell ⟨g, xs.length + i, none⟩ (.int .u64 (kk : Int)))) := Lib.hid (Below.setCell (p := ⟨g, xs.length + i, none⟩) (HBRD.out.trans (kept_of_only (Below.refl _ _) hg2 (Nat.le_refl _) hzs)) (Nat.le_refl _) _)
        generalize wo2 SS i xs.length (wv (X * (Y % Num.B64 ^ i)) (xs.length + ys.length) f) (xs.length + i) = old at *
        clear hr2 hg2 hset
        go_wp2_with fail
        exact ⟨⟨i + 1, by go_num, by omega, HSET.out, HB2.out⟩, by simp [intOf]; omega⟩
    · obtain rfl : i = ys.length := by omega
      have hm : X * (Y % Num.B64 ^ ys.length) = X * Y := by rw [Nat.mod_eq_of_lt HYB.out]
      rw [hm] at hri
      have HRI := Lib.hid hri
      have HBR := Lib.hid hbr
      clear hri hbr
      go_wp2_with fail
      go_end0
      exact ⟨rfl, HRI.out, HBR.out⟩
end Go.Proofs.YtikjdibngkcpkaaDoor
