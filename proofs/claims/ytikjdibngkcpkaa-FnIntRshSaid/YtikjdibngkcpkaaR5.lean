import Derived.Test.YtikjdibngkcpkaaR4
import Derived.Test.YtikjdibngkcpkaaBo
namespace Go.Proofs.Ytikjdibngkcpkaa
open Go.ChangeShapes Go.WideShapes Go.ChangeAt Go.RowKit
set_option linter.unusedVariables false
theorem shr_pos (X : Int) (P : Nat) (h : ¬ X < 0) : X / (P : Int) = ((X.natAbs / P : Nat) : Int) := by
  have e : X = (X.natAbs : Int) := by omega
  conv => lhs; rw [e]
  rw [Int.natCast_ediv]
theorem shr_neg (X : Int) (P : Nat) (hP : 0 < P) (h : X < 0) : X / (P : Int) < 0 ∧ (X / (P : Int)).natAbs = (X.natAbs - 1) / P + 1 := by
  have h1 := Nat.div_add_mod (X.natAbs - 1) P
  have h2 := Nat.mod_lt (X.natAbs - 1) hP
  have e : X / (P : Int) = -(((X.natAbs - 1) / P + 1 : Nat) : Int) := by
    generalize (X.natAbs - 1) / P = q at *
    generalize (X.natAbs - 1) % P = r at *
    have e2 : X = ((P - 1 - r : Nat) : Int) + (P : Int) * (-((q + 1 : Nat) : Int)) := by
      have e3 : (P : Int) * (-((q + 1 : Nat) : Int)) = -(((P * q + P : Nat)) : Int) := by
        rw [Int.mul_neg, ← Int.natCast_mul, Nat.mul_add, Nat.mul_one]
      rw [e3]
      omega
    conv => lhs; rw [e2]
    rw [Int.add_mul_ediv_left _ _ (by omega), Int.ediv_eq_zero_of_lt (by omega) (by omega)]
    omega
  rw [e]
  generalize (X.natAbs - 1) / P = q
  omega
theorem OwnN.below {w w' : World} {g cap n N : Nat} (h : OwnN w g cap n N) (hk : Kept w w') : OwnN w' g cap n N := by
  obtain ⟨h0, h1, h2, h3, f, ⟨cur, hb, hr⟩, hf⟩ := h
  exact ⟨h0, h1, h2, h3, f, ⟨cur, (hk.block g (Array.getElem?_eq_some_iff.1 hb).1).trans hb, hr⟩, hf⟩
theorem rowIs_lt {w : World} {g n : Nat} {t : TypeId} {f : Nat → Value} (h : w.rowIs g t n f) : g < w.heap.size := by
  obtain ⟨cur, hb, _⟩ := h
  exact (Array.getElem?_eq_some_iff.1 hb).1
set_option maxRecDepth 100000 in
theorem natOneF_any (w : World) : Calls Try.prog 100 #[] w fun e w' => ∃ c, e = .returned (.slice (some ⟨w.heap.size, 0, none⟩) 1 c) ∧ Sl w' (some ⟨w.heap.size, 0, none⟩) c (w64 [1]) ∧ Kept w w' := by
  go_enter Try.func100, Try.ntmps100
  go_wp2_with fail
  go_ret
  refine ⟨_, rfl, ⟨by simp [w64], by unfold maxLen; omega, fun _ => ⟨_, _, rfl, fun j u hu => ?_⟩⟩, (Below.refl _ _).alloc (Nat.le_refl _) _⟩
  rw [Nat.zero_add, cell_of_row _ _ j _ _ _ (heap_alloc_new w _)]
  rw [← hu]
  exact (List.getElem?_toArray ..)
set_option maxRecDepth 100000 in
set_option maxHeartbeats 4000000 in
theorem bigRsh_pos (g x : Nat) (X : Int) (s : Nat) (hsl : s < 18446744073709551616) (hX : X.natAbs < Num.Cap) (h0 : ¬ X < 0) (w : World) (hg : BI0 w g) (hx : BI w x X) :
    Calls Try.prog 73 #[.pointer (some ⟨g, 0, none⟩), .pointer (some ⟨x, 0, none⟩), .int .u64 (s : Int)] w (RetPF w g (X / ((2 ^ s : Nat) : Int))) := by
  obtain ⟨Ax, cx, xs, hbx, hsx, hlx, _⟩ := hx
  have hZ := shr_pos X (2 ^ s) h0
  rw [decide_eq_false h0] at hbx
  have g1 : w.cell? ⟨g, 1, none⟩ = some (.slice none 0 0) := Blk.cell hg 1
  have x0 : w.cell? ⟨x, 0, none⟩ = some (.bool false) := hbx.cell 0
  have x1 : w.cell? ⟨x, 1, none⟩ = some (.slice Ax xs.length cx) := hbx.cell 1
  have lgx := Blk.lt hbx
  have lgg := Blk.lt hg
  have lx := hlx.len hX
  have HRS : Hid (∀ W : World, Kept w W → Calls Try.prog 101 #[.slice none 0 0, .slice Ax xs.length cx, .int .u64 (s : Int)] W (RetNat W (X.natAbs / 2 ^ s))) := Lib.hid fun W hk => natRsh_new Ax cx xs X.natAbs s hsl (by omega) hlx W (hsx.below hk)
  have HZ : Hid (decide (X / ((2 ^ s : Nat) : Int) < 0) = false ∧ (X / ((2 ^ s : Nat) : Int)).natAbs = X.natAbs / 2 ^ s) := Lib.hid ⟨decide_eq_false (by rw [hZ]; exact Int.not_lt.2 (Int.natCast_nonneg _)), by rw [hZ]; exact Int.natAbs_natCast _⟩
  have HG := Lib.hid hg
  rw [← HZ.out.2] at HRS
  clear hZ hsx hlx hbx hg lx hX h0
  generalize X / ((2 ^ s : Nat) : Int) = Z at *
  have KEEP : Hid (∀ W : World, Kept w W → W.cell? ⟨g, 1, none⟩ = some (.slice none 0 0) ∧ W.cell? ⟨x, 1, none⟩ = some (.slice Ax xs.length cx)) := Lib.hid fun W h => ⟨(h.cell lgg).trans g1, (h.cell lgx).trans x1⟩
  go_enter Try.func73, Try.ntmps73
  go_wp2_with fail
  have hQ := KEEP.out w.drew (by go_grown)
  refine wp_region_lastL _ _ _ (by simp only [List.dropLast]; rfl) (by simp only [List.getLast?_cons_cons, List.getLast?_singleton]; rfl) (fun W => W.cell? ⟨g, 1, none⟩ = some (.slice none 0 0) ∧ W.cell? ⟨x, 1, none⟩ = some (.slice Ax xs.length cx)) (by kernel_rfl) (by kernel_rfl) (hQ) (fun hHeld => ?_)
  refine wpAnyH_take (i := 0) (oi := ?o0x0) (v := ?v0x0) ?hi0x0 (by kernel_rfl) (by kernel_rfl) (by kernel_rfl) ?hQ0x0 ?hy0x0 (by assumption) ?rest0x0
  case hi0x0 => (simp only [List.getElem?_toArray, List.getElem?_cons_zero]; rfl)
  case hQ0x0 => exact fun _ _ _ h => h
  case hy0x0 => (refine Or.inl ⟨by rfl, ?_⟩; intro W hSw; (try dsimp only at hSw); go_simp; (try with_reducible rfl))
  try simp only [Act.put, List.setIfInBounds_toArray, List.set_cons_zero, List.set_cons_succ]
  refine wpAnyH_take (i := 1) (oi := ?o1x1) (v := ?v1x1) ?hi1x1 (by kernel_rfl) (by kernel_rfl) (by kernel_rfl) ?hQ1x1 ?hy1x1 (by assumption) ?rest1x1
  case hi1x1 => (simp only [List.getElem?_toArray, List.getElem?_cons_succ, List.getElem?_cons_zero]; rfl)
  case hQ1x1 => exact fun _ _ _ h => h
  case hy1x1 => (refine Or.inl ⟨by rfl, ?_⟩; intro W hSw; (try dsimp only at hSw); go_simp; (try with_reducible rfl))
  try simp only [Act.put, List.setIfInBounds_toArray, List.set_cons_zero, List.set_cons_succ]
  refine wpAnyH_take (i := 2) (oi := ?o2x2) (v := ?v2x2) ?hi2x2 (by kernel_rfl) (by kernel_rfl) (by kernel_rfl) ?hQ2x2 ?hy2x2 (by assumption) ?rest2x2
  case hi2x2 => (simp only [List.getElem?_toArray, List.getElem?_cons_succ, List.getElem?_cons_zero]; rfl)
  case hQ2x2 => exact fun _ _ _ h => h
  case hy2x2 => (refine Or.inl ⟨by rfl, ?_⟩; intro W hSw; (try dsimp only at hSw); go_simp; (try with_reducible rfl))
  try simp only [Act.put, List.setIfInBounds_toArray, List.set_cons_zero, List.set_cons_succ]
  refine wpAnyH_take (i := 3) (oi := ?o3x3) (v := ?v3x3) ?hi3x3 (by kernel_rfl) (by kernel_rfl) (by kernel_rfl) ?hQ3x3 ?hy3x3 (by assumption) ?rest3x3
  case hi3x3 => (simp only [List.getElem?_toArray, List.getElem?_cons_succ, List.getElem?_cons_zero]; rfl)
  case hQ3x3 => exact fun _ _ _ h => h
  case hy3x3 => (refine Or.inl ⟨by rfl, ?_⟩; intro W hSw; (try dsimp only at hSw); go_simp; (try with_reducible rfl))
  try simp only [Act.put, List.setIfInBounds_toArray, List.set_cons_zero, List.set_cons_succ]
  refine wpAnyH_take (i := 4) (oi := ?o4x4) (v := ?v4x4) ?hi4x4 (by kernel_rfl) (by kernel_rfl) (by kernel_rfl) ?hQ4x4 ?hy4x4 (by assumption) ?rest4x4
  case hi4x4 => (simp only [List.getElem?_toArray, List.getElem?_cons_succ, List.getElem?_cons_zero]; rfl)
  case hQ4x4 => exact fun _ _ _ h => h
  case hy4x4 => (refine Or.inl ⟨by rfl, ?_⟩; intro W hSw; (try dsimp only at hSw); go_simp; (try with_reducible rfl))
  try simp only [Act.put, List.setIfInBounds_toArray, List.set_cons_zero, List.set_cons_succ]
  refine wpAnyH_take (i := 5) (oi := ?o5x5) (v := ?v5x5) ?hi5x5 (by kernel_rfl) (by kernel_rfl) (by kernel_rfl) ?hQ5x5 ?hy5x5 (by assumption) ?rest5x5
  case hi5x5 => (simp only [List.getElem?_toArray, List.getElem?_cons_succ, List.getElem?_cons_zero]; rfl)
  case hQ5x5 => exact fun _ _ _ h => h
  case hy5x5 => (refine Or.inl ⟨by rfl, ?_⟩; intro W hSw; (try dsimp only at hSw); go_simp; (try with_reducible rfl))
  try simp only [Act.put, List.setIfInBounds_toArray, List.set_cons_zero, List.set_cons_succ]
  refine wpAnyH_take (i := 6) (oi := ?o6x6) (v := ?v6x6) ?hi6x6 (by kernel_rfl) (by kernel_rfl) (by kernel_rfl) ?hQ6x6 ?hy6x6 (by assumption) ?rest6x6
  case hi6x6 => (simp only [List.getElem?_toArray, List.getElem?_cons_succ, List.getElem?_cons_zero]; rfl)
  case hQ6x6 => exact fun _ _ _ h => h
  case hy6x6 => (refine Or.inl ⟨by rfl, ?_⟩; intro W hSw; (try dsimp only at hSw); go_simp; (try with_reducible rfl))
  try simp only [Act.put, List.setIfInBounds_toArray, List.set_cons_zero, List.set_cons_succ]
  refine wpAnyH_take (i := 7) (oi := ?o7x7) (v := ?v7x7) ?hi7x7 (by kernel_rfl) (by kernel_rfl) (by kernel_rfl) ?hQ7x7 ?hy7x7 (by assumption) ?rest7x7
  case hi7x7 => (simp only [List.getElem?_toArray, List.getElem?_cons_succ, List.getElem?_cons_zero]; rfl)
  case hQ7x7 => exact fun _ _ _ h => h
  case hy7x7 => (refine Or.inl ⟨by rfl, ?_⟩; intro W hSw; (try dsimp only at hSw); go_simp; (try with_reducible rfl))
  try simp only [Act.put, List.setIfInBounds_toArray, List.set_cons_zero, List.set_cons_succ]
  refine wpAnyH_take (i := 8) (oi := ?o8x8) (v := ?v8x8) ?hi8x8 (by kernel_rfl) (by kernel_rfl) (by kernel_rfl) ?hQ8x8 ?hy8x8 (by assumption) ?rest8x8
  case hi8x8 => (simp only [List.getElem?_toArray, List.getElem?_cons_succ, List.getElem?_cons_zero]; rfl)
  case hQ8x8 => exact fun _ _ _ h => h
  case hy8x8 => (refine Or.inl ⟨by rfl, ?_⟩; intro W hSw; (try dsimp only at hSw); go_simp; (try with_reducible rfl))
  try simp only [Act.put, List.setIfInBounds_toArray, List.set_cons_zero, List.set_cons_succ]
  refine wpAnyH_take (i := 9) (oi := ?o9x9) (v := ?v9x9) ?hi9x9 (by kernel_rfl) (by kernel_rfl) (by kernel_rfl) ?hQ9x9 ?hy9x9 (by assumption) ?rest9x9
  case hi9x9 => (simp only [List.getElem?_toArray, List.getElem?_cons_succ, List.getElem?_cons_zero]; rfl)
  case hQ9x9 => exact fun _ _ _ h => h
  case hy9x9 => (refine Or.inl ⟨by rfl, ?_⟩; intro W hSw; (try dsimp only at hSw); go_simp; (try with_reducible rfl))
  try simp only [Act.put, List.setIfInBounds_toArray, List.set_cons_zero, List.set_cons_succ]
  refine wpAnyH_ready (rs := [10]) (by kernel_rfl) (by simp) ?_
  refine (AllReadyH.cons rfl (fun K hK => ?_) AllReadyH.nil)
  go_simp
  (with_reducible refine Calls.mono (HRS.out _ (by go_grown)) ?_)
  rintro e w4 ⟨A4, c4, ws4, rfl, hs4, hf4, hl4, hk4⟩
  have hL4 : Kept w w4 := ⟨hk4.os, hk4.tape, hk4.output, hk4.size, hk4.block⟩
  refine hK.out _ _ ?_ (fun hHeld => ?_)
  · (exact KEEP.out _ hL4)
  clear hK K
  try simp only [Act.put, List.setIfInBounds_toArray, List.set_cons_zero, List.set_cons_succ]
  refine wpAnyH_take (i := 11) (oi := ?o11x10) (v := ?v11x10) ?hi11x10 (by kernel_rfl) (by kernel_rfl) (by kernel_rfl) ?hQ11x10 ?hy11x10 (by assumption) ?rest11x10
  case hi11x10 => (simp only [List.getElem?_toArray, List.getElem?_cons_succ, List.getElem?_cons_zero]; rfl)
  case hQ11x10 => exact fun _ _ _ h => h
  case hy11x10 => (refine Or.inl ⟨by rfl, ?_⟩; intro W hSw; (try dsimp only at hSw); go_simp; (try with_reducible rfl))
  try simp only [Act.put, List.setIfInBounds_toArray, List.set_cons_zero, List.set_cons_succ]
  refine wpAnyH_take (i := 12) (oi := ?o12x11) (v := ?v12x11) ?hi12x11 (by kernel_rfl) (by kernel_rfl) (by kernel_rfl) ?hQ12x11 ?hy12x11 (by assumption) ?rest12x11
  case hi12x11 => (simp only [List.getElem?_toArray, List.getElem?_cons_succ, List.getElem?_cons_zero]; rfl)
  case hQ12x11 => exact fun _ _ _ h => h
  case hy12x11 => (refine Or.inl ⟨by rfl, ?_⟩; intro W hSw; (try dsimp only at hSw); go_simp; (try with_reducible rfl))
  try simp only [Act.put, List.setIfInBounds_toArray, List.set_cons_zero, List.set_cons_succ]
  refine wpAnyH_done (by kernel_rfl) ?_ _
  obtain ⟨q1, q2, q3', q4, q5⟩ := fin_store HG.out hL4 hs4 hf4 hl4 HZ.out.1
  have FIN := Lib.hid q5
  clear q5 hs4 hf4 hl4 hk4
  simp only [lastQ]
  go_wp2_with fail
  go_ret
  exact FIN.out
set_option maxRecDepth 100000 in
set_option maxHeartbeats 4000000 in
theorem bigRsh_neg (g x : Nat) (X : Int) (s : Nat) (hsl : s < 18446744073709551616) (hX : X.natAbs < Num.Cap) (h0 : X < 0) (w : World) (hg : BI0 w g) (hx : BI w x X) :
    Calls Try.prog 73 #[.pointer (some ⟨g, 0, none⟩), .pointer (some ⟨x, 0, none⟩), .int .u64 (s : Int)] w (RetPF w g (X / ((2 ^ s : Nat) : Int))) := by
  obtain ⟨Ax, cx, xs, hbx, hsx, hlx, _⟩ := hx
  have hZ := shr_neg X (2 ^ s) (Nat.two_pow_pos s) h0
  rw [decide_eq_true h0] at hbx
  have g1 : w.cell? ⟨g, 1, none⟩ = some (.slice none 0 0) := Blk.cell hg 1
  have x0 : w.cell? ⟨x, 0, none⟩ = some (.bool true) := hbx.cell 0
  have x1 : w.cell? ⟨x, 1, none⟩ = some (.slice Ax xs.length cx) := hbx.cell 1
  have lgx := Blk.lt hbx
  have lgg := Blk.lt hg
  have hXc : X.natAbs - 1 < Num.Cap := by omega
  have hX1 : X.natAbs = (X.natAbs - 1) + 1 := by omega
  have lx := hlx.len hX
  have HDX : Hid (∀ (W : World) (A : Option Addr) (c : Nat), Kept w W → Sl W A c (w64 [1]) → Calls Try.prog 99 #[.slice none 0 0, .slice Ax xs.length cx, .slice A 1 c] W (RetOwn W (X.natAbs - 1))) := Lib.hid fun W A c hk hs =>
    natDecO_any Ax A cx c xs (X.natAbs - 1) (by rw [← hX1]; exact hlx) (by omega) W (hsx.below hk) hs
  have HZ : Hid (decide (X / ((2 ^ s : Nat) : Int) < 0) = true ∧ (X / ((2 ^ s : Nat) : Int)).natAbs = (X.natAbs - 1) / 2 ^ s + 1) := Lib.hid ⟨decide_eq_true hZ.1, hZ.2⟩
  have HCX : Hid (∀ n, LW (ww ((X.natAbs - 1) / 2 ^ s) n) ((X.natAbs - 1) / 2 ^ s) → n ≤ 100000) := Lib.hid fun n h => by
    have h1 : (X.natAbs - 1) / 2 ^ s < Num.Cap := Nat.lt_of_le_of_lt (Nat.div_le_self _ _) hXc
    have h2 := h.len h1
    have h3 : (ww ((X.natAbs - 1) / 2 ^ s) n).length = n := by simp [ww]
    omega
  have HG := Lib.hid hg
  clear hZ hsx hlx hbx hg lx hX h0 hX1 hXc
  generalize X / ((2 ^ s : Nat) : Int) = Z at *
  generalize (X.natAbs - 1) = X' at *
  have KEEP : Hid (∀ W : World, Kept w W → W.cell? ⟨g, 1, none⟩ = some (.slice none 0 0) ∧ W.cell? ⟨x, 1, none⟩ = some (.slice Ax xs.length cx)) := Lib.hid fun W h => ⟨(h.cell lgg).trans g1, (h.cell lgx).trans x1⟩
  go_enter Try.func73, Try.ntmps73
  go_wp2_with fail
  go_region_held3 (fun W : World => W.cell? ⟨g, 1, none⟩ = some (.slice none 0 0) ∧ W.cell? ⟨x, 1, none⟩ = some (.slice Ax xs.length cx))
    (exact KEEP.out _ (by go_grown))
    (first
      | (go_at_call 100
         (with_reducible refine Calls.mono (natOne_any _) ?_)
         rintro e wo ⟨Ao, co, rfl, hso, hko⟩
         have hKo : Kept w wo := ⟨hko.os, hko.tape, hko.output, hko.size, hko.block⟩
         have HSO := Lib.hid hso
         have hzo := hKo.size
         clear hso)
      | (go_at_call 99
         (with_reducible refine Calls.mono (HDX.out _ Ao co ?_ ?_) ?_)
         · exact hKo
         · exact HSO.out
         rintro e w1 ⟨cap, n, rfl, ho1, hk1⟩
         have hK1 : Kept w w1 := hKo.trans hk1
         have hz1 := hK1.size
         have HO1 := Lib.hid ho1
         clear ho1 hk1))
  generalize wo.heap.size = g' at *
  have HK1 := Lib.hid hK1
  clear hKo hko HSO hK1
  go_wp2_with fail
  refine (natRsh_own g' cap n X' s hsl w1 HO1.out).mono ?_
  rintro e w2 ⟨n2, rfl, ho2, hg2⟩
  have HK2 : Hid (Kept w w2) := Lib.hid (kept_of_only HK1.out hg2 hzo hz1)
  have hn2 := HCX.out n2 ho2.2.2.2.1
  have HO2 := Lib.hid ho2
  have hlg : g' < w2.heap.size := by
    obtain ⟨_, _, _, _, f, hr, _⟩ := ho2
    exact rowIs_lt hr
  clear ho2 hg2 HO1
  go_wp2_with fail
  refine (natOneF_any w2).mono ?_
  rintro e w3 ⟨c1, rfl, hs1, hk3⟩
  have hL3 : Kept w w3 := HK2.out.trans hk3
  have HIN := Lib.hid (natInc_own w.heap.size g' cap n2 (X' / 2 ^ s) _ c1 hn2 w3 hzo hL3.size (HO2.out.below hk3) hs1 (fun b off e => by injection e with e; injection e with e1; omega))
  rw [← HZ.out.2] at HIN
  have HL3 := Lib.hid hL3
  clear hs1 hk3 hL3
  go_wp2_with fail
  refine (HIN.out).mono ?_
  rintro e w4 ⟨A4, c4, ws4, rfl, hs4, hl4, hf4, hk4⟩
  have hL4 : Kept w w4 := Below.trans HL3.out hk4
  obtain ⟨q1, q2, q3', q4, q5⟩ := fin_store HG.out hL4 hs4 hf4 hl4 HZ.out.1
  have FIN := Lib.hid q5
  clear q5 hs4 hf4 hl4 hk4
  go_wp2_with fail
  go_ret
  exact FIN.out
theorem bigRsh_any (g x : Nat) (X : Int) (s : Nat) (hsl : s < 18446744073709551616) (hX : X.natAbs < Num.Cap) (w : World) (hg : BI0 w g) (hx : BI w x X) :
    Calls Try.prog 73 #[.pointer (some ⟨g, 0, none⟩), .pointer (some ⟨x, 0, none⟩), .int .u64 (s : Int)] w (RetPF w g (X / ((2 ^ s : Nat) : Int))) := by
  by_cases h0 : X < 0
  · exact bigRsh_neg g x X s hsl hX h0 w hg hx
  · exact bigRsh_pos g x X s hsl hX h0 w hg hx
end Go.Proofs.Ytikjdibngkcpkaa
