/- The float that a big float is. -/
import Derived.Test.YtnheiigdgklbcaaFD
import Derived.Deep.RegionHeld3
import Derived.Laws.BitsAllLaws
namespace Go.Proofs.Ytnheiigdgklbcaa
open Go.ChangeShapes Go.WideShapes Go.ChangeAt Go.RowKit
set_option linter.unusedVariables false
set_option maxRecDepth 100000 in
set_option maxHeartbeats 2000000 in
theorem Float64_any (x gr cap W N s n : Nat) (pr : Int) (hpr : (64 : Int) ≤ pr) (ng : Bool) (hs : s < 64) (hn : n = blen N) (hsum : 64 * W + 64 = n + s) (h64 : 54 ≤ n) (hn2 : n ≤ 1600) (hW : W + 1 ≤ cap) (hcap : cap ≤ 99999) (w : World)
    (hx : FB w x pr 0 1 ng (.slice (some ⟨gr, 0, none⟩) (W + 1) cap) (n : Int)) (hr : Rw w gr cap (W + 1) (N * 2 ^ s)) :
    Calls Try.prog 37 #[.pointer (some ⟨x, 0, none⟩)] w fun e w' => (∃ a : Int, e = .returned (.tuple #[.float .f64 (FL ng N), .int .i8 a])) ∧ Kept w w' := by
  obtain ⟨hK, ht63⟩ := rnd_word N n s W hs hn hsum h64
  obtain ⟨K, hKe⟩ : ∃ K, K = rnd N (n - 53) := ⟨_, rfl⟩
  have hlx := Blk.lt hx
  have hlg : gr < w.heap.size := block_lt_of_cell (hr.cell hW 0 (by omega))
  have hk1 : Kept w (w.alloc (.cells #[.int .u32 53, .int .u8 0, .int .i8 0, .int .u8 0, .bool false, .slice none 0 0, .int .i32 0] 76)) := by go_grown
  have CS : Hid (Calls Try.prog 60 #[.pointer (some ⟨w.heap.size, 0, none⟩), .pointer (some ⟨x, 0, none⟩)] (w.alloc (.cells #[.int .u32 53, .int .u8 0, .int .i8 0, .int .u8 0, .bool false, .slice none 0 0, .int .i32 0] 76)) (FSetP (w.alloc (.cells #[.int .u32 53, .int .u8 0, .int .i8 0, .int .u8 0, .bool false, .slice none 0 0, .int .i32 0] 76)) w.heap.size K ng (n : Int))) := Lib.hid (by
    have := FSet_any w.heap.size x gr cap W (N * 2 ^ s) pr hpr ng n (by omega) (by omega) (by omega) hW hcap (w.alloc (.cells #[.int .u32 53, .int .u8 0, .int .i8 0, .int .u8 0, .bool false, .slice none 0 0, .int .i32 0] 76)) (Blk.new w _ _) (Blk.below hx hk1) (hr.below hk1) ht63
    rwa [hK, ← hKe] at this)
  have hbits := fun ex hex mm hmm => f64_bits ng N n K hn h64 hKe ex hex mm hmm
  obtain ⟨x0, x1, x2, x3, x4, x5, x6⟩ := hx.cells
  obtain ⟨n1, hn1⟩ : ∃ n1 : Int, n1 = (n : Int) - 1 := ⟨_, rfl⟩
  have wn1 : IntKind.i32.wrap ((n : Int) - 1) = n1 := by rw [IntKind.wrap_i32]; omega
  have ln1 : ¬ n1 < -1022 := by omega
  have l53 : IntKind.u32.wrap 53 = 53 := by rw [IntKind.wrap_u32]; omega
  have HBITS := Lib.hid hbits
  have HX := Lib.hid hx
  have HN2 : Hid (Unit → n ≤ 1600) := Lib.hid fun _ => hn2
  have HK1 := Lib.hid hk1
  generalize hFL : FL ng N = fl at *
  have HFL := Lib.hid hFL
  clear hbits hx hr hK ht63 hKe hk1 hn hsum h64 hn2 hW hcap hs hpr hn1 hFL
  go_enter Try.func37, Try.ntmps37
  go_wp2_with fail
  (with_reducible refine Calls.mono CS.out ?_)
  rintro e v ⟨rfl, ⟨g2, cap2, ac, hE, hC⟩, hKp⟩
  have hk := hKp w HK1.out (Nat.le_refl _)
  obtain ⟨ex, hex⟩ : ∃ ex : Int, ex = (if K = 9007199254740992 then (n : Int) + 1 else (n : Int)) := ⟨_, rfl⟩
  obtain ⟨mm, hmm⟩ : ∃ mm : Nat, mm = (if K = 9007199254740992 then 9223372036854775808 else K * 2048) := ⟨_, rfl⟩
  obtain ⟨hm64, hov, hin⟩ := HBITS.out ex hex mm hmm
  rw [← hex] at hE
  rw [← hmm] at hC
  have hexr : 0 ≤ ex ∧ ex ≤ 1601 := by have := HN2.out (); rw [hex]; split <;> omega
  obtain ⟨y0, y1, y2, y3, y4, y5, y6⟩ := hE.cells
  have hxv : FB v x pr 0 1 ng (.slice (some ⟨gr, 0, none⟩) (W + 1) cap) (n : Int) := Blk.below HX.out hk
  obtain ⟨z0, z1, z2, z3, z4, z5, z6⟩ := hxv.cells
  obtain ⟨e1, he1⟩ : ∃ e1 : Int, e1 = ex - 1 := ⟨_, rfl⟩
  have we1 : IntKind.i32.wrap (ex - 1) = e1 := by rw [IntKind.wrap_i32]; omega
  have le1 : ¬ e1 < -1022 := by omega
  rw [← he1] at hov hin
  have HK := Lib.hid hk
  by_cases ho : 1023 < e1
  · have hfl := Lib.hid (hov ho)
    clear hov hin hm64 hex hmm hE hC hKp hk hxv hexr he1
    cases ng
    · go_wp2_with fail
      (with_reducible refine Calls.mono (mathInf_any 1 _) ?_)
      rintro e v2 ⟨rfl, rfl⟩
      go_wp2_with fail
      go_ret2
      exact ⟨⟨_, by rw [hfl.out]; rfl⟩, HK.out⟩
    · go_wp2_with fail
      (with_reducible refine Calls.mono (mathInf_any (-1) _) ?_)
      rintro e v2 ⟨rfl, rfl⟩
      go_wp2_with fail
      go_ret2
      exact ⟨⟨_, by rw [hfl.out]; rfl⟩, HK.out⟩
  · obtain ⟨E, hEe⟩ : ∃ E : Nat, (E : Int) = ex + 1022 := ⟨(ex + 1022).toNat, by omega⟩
    obtain ⟨hE2046, hfl⟩ := hin (by omega) E hEe
    have wE : IntKind.i32.wrap (e1 + 1023) = (E : Int) := by rw [IntKind.wrap_i32]; omega
    have wE2 : IntKind.u64.wrap (E : Int) = (E : Int) := by rw [IntKind.wrap_u64]; omega
    obtain ⟨B, hB⟩ : ∃ B, B = E * 4503599627370496 := ⟨_, rfl⟩
    have hshl : Op.shift .shl .u64 (E : Int) .u64 52 = pure (.int .u64 (B : Int)) := by
      have := shl_u64 E 52 (by omega)
      rw [show (2 : Nat) ^ 52 = 4503599627370496 by decide, show (2 : Nat) ^ 64 = 18446744073709551616 by decide, Nat.mod_eq_of_lt (by omega), ← hB] at this
      exact this
    obtain ⟨Q, hQ⟩ : ∃ Q, Q = mm / 2048 := ⟨_, rfl⟩
    have hshr : Op.shift .shr .u64 (mm : Int) .u64 11 = pure (.int .u64 (Q : Int)) := by
      have := shr_u64 mm 11 (by omega)
      rw [show (2 : Nat) ^ 11 = 2048 by decide, ← hQ] at this
      exact this
    obtain ⟨M, hM⟩ : ∃ M, M = mm / 2048 % 4503599627370496 := ⟨_, rfl⟩
    have hand : bits .and .u64 (Q : Int) 4503599627370495 = (M : Int) := by
      have := and_52 Q (by omega)
      rw [hQ, ← hM] at this
      rw [hQ]
      exact this
    have hMl : M < 4503599627370496 := by omega
    have HMS := Lib.hid (msb64_any g2 cap2 0 cap2 mm (by omega) v hC)
    rw [← hM, ← hB] at hfl
    cases ng
    · obtain ⟨o1, o2⟩ := or_parts 0 E M (.inl rfl) hE2046 hMl
      rw [← hB] at o1 o2
      obtain ⟨S1, hS1⟩ : ∃ S1, S1 = 0 + B := ⟨_, rfl⟩
      obtain ⟨V, hV⟩ : ∃ V, V = 0 + B + M := ⟨_, rfl⟩
      rw [← hS1] at o1 o2 hV
      rw [← hV] at o2
      have o1' : bits .or .u64 0 (B : Int) = (S1 : Int) := o1
      have hfb := fun X => run_frombits V X
      have hflV : fl = V := by rw [hfl, hV, hS1]; simp <;> omega
      have HFLV := Lib.hid hflV
      have hS0 : v.drew.cell? ⟨w.heap.size, 2, none⟩ = some (.int .i8 ac) := y2
      clear hflV hS1 hV o1 hfl hM hMl hQ hB hE2046 hEe hov hin hm64 hex hmm hE hC hKp hk hxv hexr he1
      go_wp2_with fail
      (with_reducible refine Calls.mono HMS.out ?_)
      rintro e v2 ⟨rfl, rfl⟩
      go_wp2_with fail
      refine wp_region_lastL _ _ _ (by simp only [List.dropLast]; rfl) (by simp only [List.getLast?_cons_cons, List.getLast?_singleton]; rfl) (fun X : World => X.cell? ⟨w.heap.size, 2, none⟩ = some (.int .i8 ac)) (by kernel_rfl) (by kernel_rfl) (hS0) (fun hHeld => ?_)
      refine wpAnyH_take (i := 0) (oi := ?o0x900) (v := ?v0x900) ?hi0x900 (by kernel_rfl) (by kernel_rfl) (by kernel_rfl) ?hQ0x900 ?hy0x900 hS0 ?rest0x900
      case hi0x900 => (simp only [List.getElem?_toArray, List.getElem?_cons_zero]; rfl)
      case hQ0x900 => exact fun _ _ _ h => h
      case hy0x900 => (refine Or.inl ⟨by rfl, ?_⟩; intro W hSw; (try dsimp only at hSw); go_simp; (try with_reducible rfl))
      try simp only [Act.put, List.setIfInBounds_toArray, List.set_cons_zero, List.set_cons_succ]
      refine wpAnyH_take (i := 1) (oi := ?o1x901) (v := ?v1x901) ?hi1x901 (by kernel_rfl) (by kernel_rfl) (by kernel_rfl) ?hQ1x901 ?hy1x901 hS0 ?rest1x901
      case hi1x901 => (simp only [List.getElem?_toArray, List.getElem?_cons_succ, List.getElem?_cons_zero]; rfl)
      case hQ1x901 => exact fun _ _ _ h => h
      case hy1x901 => (refine Or.inl ⟨by rfl, ?_⟩; intro W hSw; (try dsimp only at hSw); go_simp; (try with_reducible rfl))
      try simp only [Act.put, List.setIfInBounds_toArray, List.set_cons_zero, List.set_cons_succ]
      refine wpAnyH_take (i := 2) (oi := ?o2x902) (v := ?v2x902) ?hi2x902 (by kernel_rfl) (by kernel_rfl) (by kernel_rfl) ?hQ2x902 ?hy2x902 hS0 ?rest2x902
      case hi2x902 => (simp only [List.getElem?_toArray, List.getElem?_cons_succ, List.getElem?_cons_zero]; rfl)
      case hQ2x902 => exact fun _ _ _ h => h
      case hy2x902 => (refine Or.inl ⟨by rfl, ?_⟩; intro W hSw; (try dsimp only at hSw); go_simp; (try with_reducible rfl))
      try simp only [Act.put, List.setIfInBounds_toArray, List.set_cons_zero, List.set_cons_succ]
      refine wpAnyH_take (i := 3) (oi := ?o3x903) (v := ?v3x903) ?hi3x903 (by kernel_rfl) (by kernel_rfl) (by kernel_rfl) ?hQ3x903 ?hy3x903 hS0 ?rest3x903
      case hi3x903 => (simp only [List.getElem?_toArray, List.getElem?_cons_succ, List.getElem?_cons_zero]; rfl)
      case hQ3x903 => exact fun _ _ _ h => h
      case hy3x903 => (refine Or.inl ⟨by rfl, ?_⟩; intro W hSw; (try dsimp only at hSw); go_simp; (try with_reducible rfl))
      try simp only [Act.put, List.setIfInBounds_toArray, List.set_cons_zero, List.set_cons_succ]
      refine wpAnyH_take (i := 4) (oi := ?o4x904) (v := ?v4x904) ?hi4x904 (by kernel_rfl) (by kernel_rfl) (by kernel_rfl) ?hQ4x904 ?hy4x904 hS0 ?rest4x904
      case hi4x904 => (simp only [List.getElem?_toArray, List.getElem?_cons_succ, List.getElem?_cons_zero]; rfl)
      case hQ4x904 => exact fun _ _ _ h => h
      case hy4x904 => (refine Or.inl ⟨by rfl, ?_⟩; intro W hSw; (try dsimp only at hSw); go_simp; (try with_reducible rfl))
      try simp only [Act.put, List.setIfInBounds_toArray, List.set_cons_zero, List.set_cons_succ]
      refine wpAnyH_take (i := 5) (oi := ?o5x905) (v := ?v5x905) ?hi5x905 (by kernel_rfl) (by kernel_rfl) (by kernel_rfl) ?hQ5x905 ?hy5x905 hS0 ?rest5x905
      case hi5x905 => (simp only [List.getElem?_toArray, List.getElem?_cons_succ, List.getElem?_cons_zero]; rfl)
      case hQ5x905 => exact fun _ _ _ h => h
      case hy5x905 => (refine Or.inl ⟨by rfl, ?_⟩; intro W hSw; (try dsimp only at hSw); go_simp; (try with_reducible rfl))
      try simp only [Act.put, List.setIfInBounds_toArray, List.set_cons_zero, List.set_cons_succ]
      refine wpAnyH_take (i := 6) (oi := ?o6x906) (v := ?v6x906) ?hi6x906 (by kernel_rfl) (by kernel_rfl) (by kernel_rfl) ?hQ6x906 ?hy6x906 hS0 ?rest6x906
      case hi6x906 => (simp only [List.getElem?_toArray, List.getElem?_cons_succ, List.getElem?_cons_zero]; rfl)
      case hQ6x906 => exact fun _ _ _ h => h
      case hy6x906 => (refine Or.inl ⟨by rfl, ?_⟩; intro W hSw; (try dsimp only at hSw); go_simp; (try with_reducible rfl))
      try simp only [Act.put, List.setIfInBounds_toArray, List.set_cons_zero, List.set_cons_succ]
      refine wpAnyH_take (i := 7) (oi := ?o7x907) (v := ?v7x907) ?hi7x907 (by kernel_rfl) (by kernel_rfl) (by kernel_rfl) ?hQ7x907 ?hy7x907 hS0 ?rest7x907
      case hi7x907 => (simp only [List.getElem?_toArray, List.getElem?_cons_succ, List.getElem?_cons_zero]; rfl)
      case hQ7x907 => exact fun _ _ _ h => h
      case hy7x907 => (refine Or.inl ⟨by rfl, ?_⟩; intro W hSw; (try dsimp only at hSw); go_simp; (try with_reducible rfl))
      try simp only [Act.put, List.setIfInBounds_toArray, List.set_cons_zero, List.set_cons_succ]
      refine wpAnyH_take (i := 8) (oi := ?o8x908) (v := ?v8x908) ?hi8x908 (by kernel_rfl) (by kernel_rfl) (by kernel_rfl) ?hQ8x908 ?hy8x908 hS0 ?rest8x908
      case hi8x908 => (simp only [List.getElem?_toArray, List.getElem?_cons_succ, List.getElem?_cons_zero]; rfl)
      case hQ8x908 => exact fun _ _ _ h => h
      case hy8x908 => (refine Or.inl ⟨by rfl, ?_⟩; intro W hSw; (try dsimp only at hSw); go_simp; (try with_reducible rfl))
      try simp only [Act.put, List.setIfInBounds_toArray, List.set_cons_zero, List.set_cons_succ]
      refine wpAnyH_done (by kernel_rfl) ?_ _
      simp only [lastQ]
      go_wp2_with fail
      go_ret2
      exact ⟨⟨_, by rw [HFLV.out]; rfl⟩, Below.drew HK.out⟩
    · obtain ⟨o1, o2⟩ := or_parts 9223372036854775808 E M (.inr rfl) hE2046 hMl
      rw [← hB] at o1 o2
      obtain ⟨S1, hS1⟩ : ∃ S1, S1 = 9223372036854775808 + B := ⟨_, rfl⟩
      obtain ⟨V, hV⟩ : ∃ V, V = 9223372036854775808 + B + M := ⟨_, rfl⟩
      rw [← hS1] at o1 o2 hV
      rw [← hV] at o2
      have o1' : bits .or .u64 9223372036854775808 (B : Int) = (S1 : Int) := o1
      have hfb := fun X => run_frombits V X
      have hflV : fl = V := by rw [hfl, hV, hS1]; simp <;> omega
      have HFLV := Lib.hid hflV
      have hS0 : v.drew.cell? ⟨w.heap.size, 2, none⟩ = some (.int .i8 ac) := y2
      clear hflV hS1 hV o1 hfl hM hMl hQ hB hE2046 hEe hov hin hm64 hex hmm hE hC hKp hk hxv hexr he1
      go_wp2_with fail
      (with_reducible refine Calls.mono HMS.out ?_)
      rintro e v2 ⟨rfl, rfl⟩
      go_wp2_with fail
      refine wp_region_lastL _ _ _ (by simp only [List.dropLast]; rfl) (by simp only [List.getLast?_cons_cons, List.getLast?_singleton]; rfl) (fun X : World => X.cell? ⟨w.heap.size, 2, none⟩ = some (.int .i8 ac)) (by kernel_rfl) (by kernel_rfl) (hS0) (fun hHeld => ?_)
      refine wpAnyH_take (i := 0) (oi := ?o0x909) (v := ?v0x909) ?hi0x909 (by kernel_rfl) (by kernel_rfl) (by kernel_rfl) ?hQ0x909 ?hy0x909 hS0 ?rest0x909
      case hi0x909 => (simp only [List.getElem?_toArray, List.getElem?_cons_zero]; rfl)
      case hQ0x909 => exact fun _ _ _ h => h
      case hy0x909 => (refine Or.inl ⟨by rfl, ?_⟩; intro W hSw; (try dsimp only at hSw); go_simp; (try with_reducible rfl))
      try simp only [Act.put, List.setIfInBounds_toArray, List.set_cons_zero, List.set_cons_succ]
      refine wpAnyH_take (i := 1) (oi := ?o1x910) (v := ?v1x910) ?hi1x910 (by kernel_rfl) (by kernel_rfl) (by kernel_rfl) ?hQ1x910 ?hy1x910 hS0 ?rest1x910
      case hi1x910 => (simp only [List.getElem?_toArray, List.getElem?_cons_succ, List.getElem?_cons_zero]; rfl)
      case hQ1x910 => exact fun _ _ _ h => h
      case hy1x910 => (refine Or.inl ⟨by rfl, ?_⟩; intro W hSw; (try dsimp only at hSw); go_simp; (try with_reducible rfl))
      try simp only [Act.put, List.setIfInBounds_toArray, List.set_cons_zero, List.set_cons_succ]
      refine wpAnyH_take (i := 2) (oi := ?o2x911) (v := ?v2x911) ?hi2x911 (by kernel_rfl) (by kernel_rfl) (by kernel_rfl) ?hQ2x911 ?hy2x911 hS0 ?rest2x911
      case hi2x911 => (simp only [List.getElem?_toArray, List.getElem?_cons_succ, List.getElem?_cons_zero]; rfl)
      case hQ2x911 => exact fun _ _ _ h => h
      case hy2x911 => (refine Or.inl ⟨by rfl, ?_⟩; intro W hSw; (try dsimp only at hSw); go_simp; (try with_reducible rfl))
      try simp only [Act.put, List.setIfInBounds_toArray, List.set_cons_zero, List.set_cons_succ]
      refine wpAnyH_take (i := 3) (oi := ?o3x912) (v := ?v3x912) ?hi3x912 (by kernel_rfl) (by kernel_rfl) (by kernel_rfl) ?hQ3x912 ?hy3x912 hS0 ?rest3x912
      case hi3x912 => (simp only [List.getElem?_toArray, List.getElem?_cons_succ, List.getElem?_cons_zero]; rfl)
      case hQ3x912 => exact fun _ _ _ h => h
      case hy3x912 => (refine Or.inl ⟨by rfl, ?_⟩; intro W hSw; (try dsimp only at hSw); go_simp; (try with_reducible rfl))
      try simp only [Act.put, List.setIfInBounds_toArray, List.set_cons_zero, List.set_cons_succ]
      refine wpAnyH_take (i := 4) (oi := ?o4x913) (v := ?v4x913) ?hi4x913 (by kernel_rfl) (by kernel_rfl) (by kernel_rfl) ?hQ4x913 ?hy4x913 hS0 ?rest4x913
      case hi4x913 => (simp only [List.getElem?_toArray, List.getElem?_cons_succ, List.getElem?_cons_zero]; rfl)
      case hQ4x913 => exact fun _ _ _ h => h
      case hy4x913 => (refine Or.inl ⟨by rfl, ?_⟩; intro W hSw; (try dsimp only at hSw); go_simp; (try with_reducible rfl))
      try simp only [Act.put, List.setIfInBounds_toArray, List.set_cons_zero, List.set_cons_succ]
      refine wpAnyH_take (i := 5) (oi := ?o5x914) (v := ?v5x914) ?hi5x914 (by kernel_rfl) (by kernel_rfl) (by kernel_rfl) ?hQ5x914 ?hy5x914 hS0 ?rest5x914
      case hi5x914 => (simp only [List.getElem?_toArray, List.getElem?_cons_succ, List.getElem?_cons_zero]; rfl)
      case hQ5x914 => exact fun _ _ _ h => h
      case hy5x914 => (refine Or.inl ⟨by rfl, ?_⟩; intro W hSw; (try dsimp only at hSw); go_simp; (try with_reducible rfl))
      try simp only [Act.put, List.setIfInBounds_toArray, List.set_cons_zero, List.set_cons_succ]
      refine wpAnyH_take (i := 6) (oi := ?o6x915) (v := ?v6x915) ?hi6x915 (by kernel_rfl) (by kernel_rfl) (by kernel_rfl) ?hQ6x915 ?hy6x915 hS0 ?rest6x915
      case hi6x915 => (simp only [List.getElem?_toArray, List.getElem?_cons_succ, List.getElem?_cons_zero]; rfl)
      case hQ6x915 => exact fun _ _ _ h => h
      case hy6x915 => (refine Or.inl ⟨by rfl, ?_⟩; intro W hSw; (try dsimp only at hSw); go_simp; (try with_reducible rfl))
      try simp only [Act.put, List.setIfInBounds_toArray, List.set_cons_zero, List.set_cons_succ]
      refine wpAnyH_take (i := 7) (oi := ?o7x916) (v := ?v7x916) ?hi7x916 (by kernel_rfl) (by kernel_rfl) (by kernel_rfl) ?hQ7x916 ?hy7x916 hS0 ?rest7x916
      case hi7x916 => (simp only [List.getElem?_toArray, List.getElem?_cons_succ, List.getElem?_cons_zero]; rfl)
      case hQ7x916 => exact fun _ _ _ h => h
      case hy7x916 => (refine Or.inl ⟨by rfl, ?_⟩; intro W hSw; (try dsimp only at hSw); go_simp; (try with_reducible rfl))
      try simp only [Act.put, List.setIfInBounds_toArray, List.set_cons_zero, List.set_cons_succ]
      refine wpAnyH_take (i := 8) (oi := ?o8x917) (v := ?v8x917) ?hi8x917 (by kernel_rfl) (by kernel_rfl) (by kernel_rfl) ?hQ8x917 ?hy8x917 hS0 ?rest8x917
      case hi8x917 => (simp only [List.getElem?_toArray, List.getElem?_cons_succ, List.getElem?_cons_zero]; rfl)
      case hQ8x917 => exact fun _ _ _ h => h
      case hy8x917 => (refine Or.inl ⟨by rfl, ?_⟩; intro W hSw; (try dsimp only at hSw); go_simp; (try with_reducible rfl))
      try simp only [Act.put, List.setIfInBounds_toArray, List.set_cons_zero, List.set_cons_succ]
      refine wpAnyH_done (by kernel_rfl) ?_ _
      simp only [lastQ]
      go_wp2_with fail
      go_ret2
      exact ⟨⟨_, by rw [HFLV.out]; rfl⟩, Below.drew HK.out⟩
end Go.Proofs.Ytnheiigdgklbcaa
