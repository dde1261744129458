/- cleanNode of a list. -/
import Derived.Test.YtoociokhldakbaaGreatOK
import Derived.OwnWalk
import Derived.Deep.DeepMust
import Derived.Deep.AppendLies
import Derived.Deep.RegionHeld3
import Derived.Orders
namespace Go.Proofs.YtoociokhldakbaaGreat
open Go.ChangeShapes Go.WideShapes Go.ChangeAt Go.RowKit
set_option linter.unusedVariables false
set_option maxRecDepth 100000 in
set_option maxHeartbeats 4000000 in
/-- a list -/
theorem cleanNode_list (x root : Int) (bv : Bool) (Av Kv GA : Option Addr) (lv : List Nat) (zs : List Int) (cv qv ev gn gc i n : Nat) (Tv : ByteArray) (w : World) (hs : Sl w Av cv (by8 lv)) (hd : ∀ d, d ∈ lv → d < 256) (h64 : qv < 18446744073709551616) (hz : Sl w Kv ev (ints zs)) (hn : 0 < n) (hn2 : n ≤ 12) (hi2 : i < n) (h6 : knd x 1 = 6) :
    Calls Tryz.prog 19 #[.agg #[.int .i64 x, .bool bv, .slice Av lv.length cv, .int .u64 (qv : Int), .string Tv, .slice Kv zs.length ev], .agg #[.slice GA gn gc, .int .i64 root], .int .i64 (i : Int), .int .i64 (n : Int)] w fun e w' => (∃ v, e = .returned v ∧ ND n i (fun b => w.heap.size ≤ b) w' v) ∧ Kept w w' := by
  obtain ⟨i0, hi0, hi1, hi2', hi3⟩ := info_int
  have HI : Hid (Tryz.prog.info? 3 = some i0 ∧ i0.zero = some (.int .i64 0) ∧ i0.size = 1 ∧ i0.bytes = 8) := Lib.hid ⟨hi0, hi1, hi2', hi3⟩
  obtain ⟨hk0, hbx, hbg, hbz⟩ := three_boxes w #[.int .i64 x, .bool bv, .slice Av lv.length cv, .int .u64 (qv : Int), .string Tv, .slice Kv zs.length ev] #[.slice GA gn gc, .int .i64 root] #[.int .i64 0, .bool false, .slice none 0 0, .int .u64 0, .string ⟨#[]⟩, .slice none 0 0] 45 24 45
  have hszT : ∃ q : Nat, q ≤ Tv.size ∧ min (Tv.size : Int) 60 = (q : Int) := ⟨min Tv.size 60, by omega, by omega⟩
  obtain ⟨q, hq1, hq2⟩ := hszT
  have hq3 : (q : Int) ≤ (Tv.size : Int) := by omega
  have HCL : Hid (∀ (X : World) (T : ByteArray), Kept (((w.alloc (.cells #[.int .i64 x, .bool bv, .slice Av lv.length cv, .int .u64 (qv : Int), .string Tv, .slice Kv zs.length ev] 45)).alloc (.cells #[.slice GA gn gc, .int .i64 root] 24)).alloc (.cells #[.int .i64 0, .bool false, .slice none 0 0, .int .u64 0, .string ⟨#[]⟩, .slice none 0 0] 45)) X → Calls Tryz.prog 14 #[.agg #[.int .i64 x, .bool bv, .slice Av lv.length cv, .int .u64 (qv : Int), .string T, .slice none 0 0], .int .i64 1] X (RetOG X 1 (knd x 1))) := Lib.hid fun X T hX =>
    Clean_any 1 (by decide) x _ X ⟨bv, Av, cv, lv, qv, T, none, 0, 0, rfl, (hs.below hk0).below hX, hd, h64, by decide, fun i hi => absurd hi (by omega)⟩
  have CX : Hid (∀ X, Kept (((w.alloc (.cells #[.int .i64 x, .bool bv, .slice Av lv.length cv, .int .u64 (qv : Int), .string Tv, .slice Kv zs.length ev] 45)).alloc (.cells #[.slice GA gn gc, .int .i64 root] 24)).alloc (.cells #[.int .i64 0, .bool false, .slice none 0 0, .int .u64 0, .string ⟨#[]⟩, .slice none 0 0] 45)) X → X.cell? ⟨w.heap.size, 0, none⟩ = some (.int .i64 x) ∧ X.cell? ⟨w.heap.size, 1, none⟩ = some (.bool bv) ∧ X.cell? ⟨w.heap.size, 2, none⟩ = some (.slice Av lv.length cv) ∧ X.cell? ⟨w.heap.size, 3, none⟩ = some (.int .u64 (qv : Int)) ∧ X.cell? ⟨w.heap.size, 4, none⟩ = some (.string Tv)) := Lib.hid fun X hX => ⟨(hbx.below hX).cell 0, (hbx.below hX).cell 1, (hbx.below hX).cell 2, (hbx.below hX).cell 3, (hbx.below hX).cell 4⟩
  have HBX := Lib.hid hbx
  have HBZ := Lib.hid hbz
  have HK0 := Lib.hid hk0
  have HSZ := Lib.hid (hz.below hk0)
  have hzl : (zs.length : Int) ≤ 9223372036854775807 := by have h1 := hz.cap; have h2 := hz.max; unfold ints at h1; rw [List.length_map] at h1; unfold maxLen at h2; omega
  have HN : Hid (0 < n ∧ n ≤ 12 ∧ i < n) := Lib.hid ⟨hn, hn2, hi2⟩
  have hsz1 : (((w.alloc (.cells #[.int .i64 x, .bool bv, .slice Av lv.length cv, .int .u64 (qv : Int), .string Tv, .slice Kv zs.length ev] 45)).alloc (.cells #[.slice GA gn gc, .int .i64 root] 24)).alloc (.cells #[.int .i64 0, .bool false, .slice none 0 0, .int .u64 0, .string ⟨#[]⟩, .slice none 0 0] 45)).heap.size = w.heap.size + 1 + 1 + 1 := by simp
  have HS1 := Lib.hid hsz1
  have hkb := knd_bound x 1
  generalize hkd : knd x 1 = k at *
  have n6 : (k == 6) = true := by simpa using h6
  have H0 : Hid (0 ≤ k ∧ k ≤ 7) := Lib.hid ⟨by omega, by omega⟩
  have H6 := Lib.hid h6
  clear hkb h6 hkd
  clear hi0 hi1 hi2' hi3 hk0 hbx hbg hbz hs hd h64 hz hn hn2 hi2 hsz1
  go_enter Tryz.func19, Tryz.ntmps19
  go_wp2_with fail
  generalize (((w.alloc (.cells #[.int .i64 x, .bool bv, .slice Av lv.length cv, .int .u64 (qv : Int), .string Tv, .slice Kv zs.length ev] 45)).alloc (.cells #[.slice GA gn gc, .int .i64 root] 24)).alloc (.cells #[.int .i64 0, .bool false, .slice none 0 0, .int .u64 0, .string ⟨#[]⟩, .slice none 0 0] 45)) = W at *
  refine wp_region_lastL _ _ _ (by simp only [List.dropLast]; rfl) (by simp only [List.getLast?_cons_cons, List.getLast?_singleton]; rfl) (fun X : World => Kept W X) (by kernel_rfl) (by kernel_rfl) (by go_grown) (fun hHeld => ?_)
  refine wpAnyH_take (i := 0) (oi := ?o0x0) (v := ?v0x0) ?hi0x0 (by kernel_rfl) (by kernel_rfl) (by kernel_rfl) ?hQ0x0 ?hy0x0 hHeld ?rest0x0
  case hi0x0 => (simp only [List.getElem?_toArray, List.getElem?_cons_zero]; rfl)
  case hQ0x0 => exact fun _ _ _ h => h
  case hy0x0 => (refine Or.inl ⟨by rfl, ?_⟩; intro W hSw; (try dsimp only at hSw); obtain ⟨x0, x1, x2, x3, x4⟩ := CX.out _ hSw; go_simp; (try with_reducible rfl))
  try simp only [Act.put, List.setIfInBounds_toArray, List.set_cons_zero, List.set_cons_succ]
  refine wpAnyH_take (i := 1) (oi := ?o1x1) (v := ?v1x1) ?hi1x1 (by kernel_rfl) (by kernel_rfl) (by kernel_rfl) ?hQ1x1 ?hy1x1 hHeld ?rest1x1
  case hi1x1 => (simp only [List.getElem?_toArray, List.getElem?_cons_succ, List.getElem?_cons_zero]; rfl)
  case hQ1x1 => exact fun _ _ _ h => h
  case hy1x1 => (refine Or.inl ⟨by rfl, ?_⟩; intro W hSw; (try dsimp only at hSw); obtain ⟨x0, x1, x2, x3, x4⟩ := CX.out _ hSw; go_simp; (try with_reducible rfl))
  try simp only [Act.put, List.setIfInBounds_toArray, List.set_cons_zero, List.set_cons_succ]
  refine wpAnyH_take (i := 2) (oi := ?o2x2) (v := ?v2x2) ?hi2x2 (by kernel_rfl) (by kernel_rfl) (by kernel_rfl) ?hQ2x2 ?hy2x2 hHeld ?rest2x2
  case hi2x2 => (simp only [List.getElem?_toArray, List.getElem?_cons_succ, List.getElem?_cons_zero]; rfl)
  case hQ2x2 => exact fun _ _ _ h => h
  case hy2x2 => (refine Or.inl ⟨by rfl, ?_⟩; intro W hSw; (try dsimp only at hSw); obtain ⟨x0, x1, x2, x3, x4⟩ := CX.out _ hSw; go_simp; (try with_reducible rfl))
  try simp only [Act.put, List.setIfInBounds_toArray, List.set_cons_zero, List.set_cons_succ]
  refine wpAnyH_take (i := 3) (oi := ?o3x3) (v := ?v3x3) ?hi3x3 (by kernel_rfl) (by kernel_rfl) (by kernel_rfl) ?hQ3x3 ?hy3x3 hHeld ?rest3x3
  case hi3x3 => (simp only [List.getElem?_toArray, List.getElem?_cons_succ, List.getElem?_cons_zero]; rfl)
  case hQ3x3 => exact fun _ _ _ h => h
  case hy3x3 => (refine Or.inl ⟨by rfl, ?_⟩; intro W hSw; (try dsimp only at hSw); obtain ⟨x0, x1, x2, x3, x4⟩ := CX.out _ hSw; go_simp; (try with_reducible rfl))
  try simp only [Act.put, List.setIfInBounds_toArray, List.set_cons_zero, List.set_cons_succ]
  refine wpAnyH_take (i := 4) (oi := ?o4x4) (v := ?v4x4) ?hi4x4 (by kernel_rfl) (by kernel_rfl) (by kernel_rfl) ?hQ4x4 ?hy4x4 hHeld ?rest4x4
  case hi4x4 => (simp only [List.getElem?_toArray, List.getElem?_cons_succ, List.getElem?_cons_zero]; rfl)
  case hQ4x4 => exact fun _ _ _ h => h
  case hy4x4 => (refine Or.inl ⟨by rfl, ?_⟩; intro W hSw; (try dsimp only at hSw); obtain ⟨x0, x1, x2, x3, x4⟩ := CX.out _ hSw; go_simp; (try with_reducible rfl))
  try simp only [Act.put, List.setIfInBounds_toArray, List.set_cons_zero, List.set_cons_succ]
  refine wpAnyH_take (i := 5) (oi := ?o5x5) (v := ?v5x5) ?hi5x5 (by kernel_rfl) (by kernel_rfl) (by kernel_rfl) ?hQ5x5 ?hy5x5 hHeld ?rest5x5
  case hi5x5 => (simp only [List.getElem?_toArray, List.getElem?_cons_succ, List.getElem?_cons_zero]; rfl)
  case hQ5x5 => exact fun _ _ _ h => h
  case hy5x5 => (refine Or.inl ⟨by rfl, ?_⟩; intro W hSw; (try dsimp only at hSw); obtain ⟨x0, x1, x2, x3, x4⟩ := CX.out _ hSw; go_simp; (try with_reducible rfl))
  try simp only [Act.put, List.setIfInBounds_toArray, List.set_cons_zero, List.set_cons_succ]
  refine wpAnyH_take (i := 6) (oi := ?o6x6) (v := ?v6x6) ?hi6x6 (by kernel_rfl) (by kernel_rfl) (by kernel_rfl) ?hQ6x6 ?hy6x6 hHeld ?rest6x6
  case hi6x6 => (simp only [List.getElem?_toArray, List.getElem?_cons_succ, List.getElem?_cons_zero]; rfl)
  case hQ6x6 => exact fun _ _ _ h => h
  case hy6x6 => (refine Or.inl ⟨by rfl, ?_⟩; intro W hSw; (try dsimp only at hSw); obtain ⟨x0, x1, x2, x3, x4⟩ := CX.out _ hSw; go_simp; (try with_reducible rfl))
  try simp only [Act.put, List.setIfInBounds_toArray, List.set_cons_zero, List.set_cons_succ]
  refine wpAnyH_take (i := 7) (oi := ?o7x7) (v := ?v7x7) ?hi7x7 (by kernel_rfl) (by kernel_rfl) (by kernel_rfl) ?hQ7x7 ?hy7x7 hHeld ?rest7x7
  case hi7x7 => (simp only [List.getElem?_toArray, List.getElem?_cons_succ, List.getElem?_cons_zero]; rfl)
  case hQ7x7 => exact fun _ _ _ h => h
  case hy7x7 => (refine Or.inl ⟨by rfl, ?_⟩; intro W hSw; (try dsimp only at hSw); obtain ⟨x0, x1, x2, x3, x4⟩ := CX.out _ hSw; go_simp; (try with_reducible rfl))
  try simp only [Act.put, List.setIfInBounds_toArray, List.set_cons_zero, List.set_cons_succ]
  refine wpAnyH_take (i := 8) (oi := ?o8x8) (v := ?v8x8) ?hi8x8 (by kernel_rfl) (by kernel_rfl) (by kernel_rfl) ?hQ8x8 ?hy8x8 hHeld ?rest8x8
  case hi8x8 => (simp only [List.getElem?_toArray, List.getElem?_cons_succ, List.getElem?_cons_zero]; rfl)
  case hQ8x8 => exact fun _ _ _ h => h
  case hy8x8 => (refine Or.inl ⟨by rfl, ?_⟩; intro W hSw; (try dsimp only at hSw); obtain ⟨x0, x1, x2, x3, x4⟩ := CX.out _ hSw; go_simp; (try with_reducible rfl))
  try simp only [Act.put, List.setIfInBounds_toArray, List.set_cons_zero, List.set_cons_succ]
  refine wpAnyH_take (i := 9) (oi := ?o9x9) (v := ?v9x9) ?hi9x9 (by kernel_rfl) (by kernel_rfl) (by kernel_rfl) ?hQ9x9 ?hy9x9 hHeld ?rest9x9
  case hi9x9 => (simp only [List.getElem?_toArray, List.getElem?_cons_succ, List.getElem?_cons_zero]; rfl)
  case hQ9x9 => exact fun _ _ _ h => h
  case hy9x9 => (refine Or.inl ⟨by rfl, ?_⟩; intro W hSw; (try dsimp only at hSw); obtain ⟨x0, x1, x2, x3, x4⟩ := CX.out _ hSw; go_simp; (try with_reducible rfl))
  try simp only [Act.put, List.setIfInBounds_toArray, List.set_cons_zero, List.set_cons_succ]
  refine wpAnyH_take (i := 10) (oi := ?o10x10) (v := ?v10x10) ?hi10x10 (by kernel_rfl) (by kernel_rfl) (by kernel_rfl) ?hQ10x10 ?hy10x10 hHeld ?rest10x10
  case hi10x10 => (simp only [List.getElem?_toArray, List.getElem?_cons_succ, List.getElem?_cons_zero]; rfl)
  case hQ10x10 => exact fun _ _ _ h => h
  case hy10x10 => (refine Or.inl ⟨by rfl, ?_⟩; intro W hSw; (try dsimp only at hSw); obtain ⟨x0, x1, x2, x3, x4⟩ := CX.out _ hSw; go_simp; (try with_reducible rfl))
  try simp only [Act.put, List.setIfInBounds_toArray, List.set_cons_zero, List.set_cons_succ]
  refine wpAnyH_take (i := 11) (oi := ?o11x11) (v := ?v11x11) ?hi11x11 (by kernel_rfl) (by kernel_rfl) (by kernel_rfl) ?hQ11x11 ?hy11x11 hHeld ?rest11x11
  case hi11x11 => (simp only [List.getElem?_toArray, List.getElem?_cons_succ, List.getElem?_cons_zero]; rfl)
  case hQ11x11 => exact fun _ _ _ h => h
  case hy11x11 => (refine Or.inl ⟨by rfl, ?_⟩; intro W hSw; (try dsimp only at hSw); obtain ⟨x0, x1, x2, x3, x4⟩ := CX.out _ hSw; go_simp; (try with_reducible rfl))
  try simp only [Act.put, List.setIfInBounds_toArray, List.set_cons_zero, List.set_cons_succ]
  refine wpAnyH_take (i := 12) (oi := ?o12x12) (v := ?v12x12) ?hi12x12 (by kernel_rfl) (by kernel_rfl) (by kernel_rfl) ?hQ12x12 ?hy12x12 hHeld ?rest12x12
  case hi12x12 => (simp only [List.getElem?_toArray, List.getElem?_cons_succ, List.getElem?_cons_zero]; rfl)
  case hQ12x12 => exact fun _ _ _ h => h
  case hy12x12 => (refine Or.inl ⟨by rfl, ?_⟩; intro W hSw; (try dsimp only at hSw); obtain ⟨x0, x1, x2, x3, x4⟩ := CX.out _ hSw; go_simp; (try with_reducible rfl))
  try simp only [Act.put, List.setIfInBounds_toArray, List.set_cons_zero, List.set_cons_succ]
  refine wpAnyH_take (i := 13) (oi := ?o13x13) (v := ?v13x13) ?hi13x13 (by kernel_rfl) (by kernel_rfl) (by kernel_rfl) ?hQ13x13 ?hy13x13 hHeld ?rest13x13
  case hi13x13 => (simp only [List.getElem?_toArray, List.getElem?_cons_succ, List.getElem?_cons_zero]; rfl)
  case hQ13x13 => exact fun _ _ _ h => h
  case hy13x13 => (refine Or.inl ⟨by rfl, ?_⟩; intro W hSw; (try dsimp only at hSw); obtain ⟨x0, x1, x2, x3, x4⟩ := CX.out _ hSw; go_simp; (try with_reducible rfl))
  try simp only [Act.put, List.setIfInBounds_toArray, List.set_cons_zero, List.set_cons_succ]
  refine wpAnyH_take (i := 14) (oi := ?o14x14) (v := ?v14x14) ?hi14x14 (by kernel_rfl) (by kernel_rfl) (by kernel_rfl) ?hQ14x14 ?hy14x14 hHeld ?rest14x14
  case hi14x14 => (simp only [List.getElem?_toArray, List.getElem?_cons_succ, List.getElem?_cons_zero]; rfl)
  case hQ14x14 => exact fun _ _ _ h => h
  case hy14x14 => (refine Or.inl ⟨by rfl, ?_⟩; intro W hSw; (try dsimp only at hSw); obtain ⟨x0, x1, x2, x3, x4⟩ := CX.out _ hSw; go_simp; (try with_reducible rfl))
  try simp only [Act.put, List.setIfInBounds_toArray, List.set_cons_zero, List.set_cons_succ]
  refine wpAnyH_take (i := 15) (oi := ?o15x15) (v := ?v15x15) ?hi15x15 (by kernel_rfl) (by kernel_rfl) (by kernel_rfl) ?hQ15x15 ?hy15x15 hHeld ?rest15x15
  case hi15x15 => (simp only [List.getElem?_toArray, List.getElem?_cons_succ, List.getElem?_cons_zero]; rfl)
  case hQ15x15 => exact fun _ _ _ h => h
  case hy15x15 => (refine Or.inl ⟨by rfl, ?_⟩; intro W hSw; (try dsimp only at hSw); obtain ⟨x0, x1, x2, x3, x4⟩ := CX.out _ hSw; go_simp; (try with_reducible rfl))
  try simp only [Act.put, List.setIfInBounds_toArray, List.set_cons_zero, List.set_cons_succ]
  refine wpAnyH_ready (rs := [16, 17]) (by kernel_rfl) (by simp) ?_
  refine (AllReadyH.cons rfl (fun K hK => ?_) (AllReadyH.cons rfl (fun K hK => ?_) AllReadyH.nil))
  · go_simp
    (with_reducible refine Calls.mono (HCL.out _ _ (by go_grown)) ?_)
    rintro e w3 ⟨⟨v3, rfl, hv3⟩, hk3⟩
    have hk3a : Kept W w3 := ⟨hk3.os, hk3.tape, hk3.output, hk3.size, hk3.block⟩
    have HK3 := Lib.hid hk3a
    obtain ⟨b3, B3, c3, l3, q3, T3, K3, n3, e3, rfl, g1, g2, g3, g4, g5, _⟩ := hv3
    have HVP : Hid (Sl w3 B3 c3 (by8 l3) ∧ (∀ b off, B3 = some ⟨b, off, none⟩ → l3 ≠ [] → W.heap.size ≤ b) ∧ l3.length ≤ 40 ∧ (∀ d, d ∈ l3 → d < 256) ∧ (k = 1 → q3 ≤ 1)) := Lib.hid ⟨g1, g2, g3, g4, g5⟩
    clear hk3 hk3a g1 g2 g3 g4 g5
    refine hK.out _ _ ?_ (fun hHeld => ?_)
    · (exact HK3.out)
    clear hK K
    try simp only [Act.put, List.setIfInBounds_toArray, List.set_cons_zero, List.set_cons_succ]
    refine wpAnyH_ready (rs := [17]) (by kernel_rfl) (by simp) ?_
    refine (AllReadyH.cons rfl (fun K hK => ?_) AllReadyH.nil)
    go_simp
    refine hK.out _ _ ?_ (fun hHeld => ?_)
    · (exact HK3.out.trans ((Below.refl _ w3).alloc (Nat.le_refl _) _))
    clear hK K
    try simp only [Act.put, List.setIfInBounds_toArray, List.set_cons_zero, List.set_cons_succ]
    refine wpAnyH_done (by kernel_rfl) ?_ _
    simp only [lastQ]
    clear hHeld
    go_wp2_with fail
    have HST0 : ∃ u p9 p10, p9 = w3.heap.size ∧ p10 = w3.heap.size + 1 ∧ Hid (Kept W u ∧ W.heap.size ≤ p9 ∧ Sl u B3 c3 (by8 l3)) ∧ Hid (NI u p9 p10 #[.int .i64 k, .bool b3, .slice B3 l3.length c3, .int .u64 (q3 : Int), .string T3, .slice K3 n3 e3] k b3 B3 l3.length c3 (q3 : Int) T3 ((w3.alloc (.cells #[.int .i64 k, .bool b3, .slice B3 l3.length c3, .int .u64 (q3 : Int), .string T3, .slice K3 n3 e3] 33)).alloc (.cells #[.int .i64 k, .bool b3, .slice B3 l3.length c3, .int .u64 (q3 : Int), .string T3, .slice none 0 0] 45)) n [] (.slice none 0 0)) := ⟨w3, _, _, rfl, rfl, Lib.hid ⟨HK3.out, HK3.out.size, HVP.out.1⟩, Lib.hid (NI.startA n)⟩
    obtain ⟨u, p9, p10, e9, e10, HU, HST⟩ := HST0
    rw [← e10, ← e9]
    clear e9 e10
    generalize ((w3.alloc (.cells #[.int .i64 k, .bool b3, .slice B3 l3.length c3, .int .u64 (q3 : Int), .string T3, .slice K3 n3 e3] 33)).alloc (.cells #[.int .i64 k, .bool b3, .slice B3 l3.length c3, .int .u64 (q3 : Int), .string T3, .slice none 0 0] 45)) = W4 at *
    have HB4 := Lib.hid (HBX.out.below HU.out.1)
    have HS4 := Lib.hid (HSZ.out.below HU.out.1)
    have HBZ4 := Lib.hid (HBZ.out.below HU.out.1)
    have HP9 : Hid (w.heap.size + 1 + 1 + 1 ≤ p9 ∧ p9 < p10 ∧ W.heap.size = w.heap.size + 1 + 1 + 1) := Lib.hid ⟨by have := HS1.out; have := HU.out.2.1; omega, HST.out.2.2.2.2.2.2, HS1.out⟩
    go_loopw [12] (fun iv wr => ∃ (j : Nat) (ks : List Nat) (sv : Value), iv = .int .i64 (j : Int) ∧ j ≤ zs.length ∧ j ≤ 32 ∧ ks.length ≤ 8 ∧ True ∧ NI u p9 p10 #[.int .i64 k, .bool b3, .slice B3 l3.length c3, .int .u64 (q3 : Int), .string T3, .slice K3 n3 e3] k b3 B3 l3.length c3 (q3 : Int) T3 wr n ks sv) (fun iv _ => 40 - (intOf iv).toNat)
    case atStart => exact ⟨0, [], _, rfl, by omega, by omega, by simp, by simp, HST.out⟩
    case round =>
      obtain ⟨j, ks, sv, rfl, hj, hj32, hks, hcd, hG⟩ := hrel
      have HG := Lib.hid hG
      have HKS := Lib.hid hks
      have HCD := Lib.hid hcd
      obtain ⟨KA, kc, esv, hsl, hfr⟩ := own_sl (show wr.ownsRow (p10 + 1) 3 1 sv (i64s ks).length (i64s ks) by have := hG.2.2.2.1; rw [show (i64s ks).length = ks.length by simp [i64s]]; exact this)
      rw [show (i64s ks).length = ks.length by simp [i64s]] at esv
      subst esv
      have t5 := (HB4.out.below HG.out.1).cell 5
      have s5 := HG.out.2.2.1.cell 5
      have k0 := HG.out.2.1.cell 0
      have i0' : (0 : Int) ≤ (j : Int) := by omega
      have HFR := Lib.hid (And.intro hsl hfr)
      clear hsl hfr
      by_cases hlt : j < zs.length ∧ j < 32 ∧ ks.length < 8
      · have i1 : (j : Int) < (zs.length : Int) := by omega
        have i2 : (j : Int) < 32 := by omega
        have i3 : (ks.length : Int) < 8 := by omega
        have HLT := Lib.hid hlt
        obtain ⟨kb, ko, rfl, hcd2⟩ := (HS4.out.below HG.out.1).at_ (fun e2 => by have h9 := congrArg List.length e2; have := hlt.1; unfold ints at h9; rw [List.length_map] at h9; simp only [List.length_nil] at h9; omega)
        have hz1 : (ints zs)[j]? = some (.int .i64 (zs[j]'hlt.1)) := by unfold ints; rw [List.getElem?_map, List.getElem?_eq_getElem hlt.1]; rfl
        have a0 := hcd2 j _ hz1
        have hkb : kb < p10 := by
          obtain ⟨kb', ko', ekb, hcd3⟩ := HSZ.out.at_ (fun e2 => by rw [e2] at hz1; cases hz1)
          injection ekb with ekb
          injection ekb with ekb
          subst ekb
          have h8 : kb < W.heap.size := block_lt_of_cell (hcd3 j _ hz1)
          have := HP9.out
          omega
        have HKB := Lib.hid hkb
        generalize (zs[j]'hlt.1) = zj at *
        have HC5 : Hid (wr.cell? ⟨p10, 5, none⟩ = some (.slice KA ks.length kc) ∧ wr.cell? ⟨w.heap.size, 5, none⟩ = some (.slice (some ⟨kb, ko, none⟩) zs.length ev) ∧ wr.cell? ⟨kb, ko + j, none⟩ = some (.int .i64 zj)) := Lib.hid ⟨s5, t5, a0⟩
        clear hcd2 hz1 a0 hkb hlt hj hj32 hks hcd hG
        go_wp2_with fail
        refine wp_region_lastL _ _ _ (by simp only [List.dropLast]; rfl) (by simp only [List.getLast?_cons_cons, List.getLast?_singleton]; rfl) (fun X : World => Same (p10 + 1) wr X) (by kernel_rfl) (by kernel_rfl) (fun _ _ => rfl) (fun hHeld => ?_)
        refine wpAnyH_take (i := 0) (oi := ?o0x16) (v := ?v0x16) ?hi0x16 (by kernel_rfl) (by kernel_rfl) (by kernel_rfl) ?hQ0x16 ?hy0x16 hHeld ?rest0x16
        case hi0x16 => (simp only [List.getElem?_toArray, List.getElem?_cons_zero]; rfl)
        case hQ0x16 => exact fun _ _ _ h => h
        case hy0x16 => (refine Or.inl ⟨by rfl, ?_⟩; intro W hSw; (try dsimp only at hSw); go_simp; (try with_reducible rfl))
        try simp only [Act.put, List.setIfInBounds_toArray, List.set_cons_zero, List.set_cons_succ]
        refine wpAnyH_take (i := 1) (oi := ?o1x17) (v := ?v1x17) ?hi1x17 (by kernel_rfl) (by kernel_rfl) (by kernel_rfl) ?hQ1x17 ?hy1x17 hHeld ?rest1x17
        case hi1x17 => (simp only [List.getElem?_toArray, List.getElem?_cons_succ, List.getElem?_cons_zero]; rfl)
        case hQ1x17 => exact fun _ _ _ h => h
        case hy1x17 => (refine Or.inl ⟨by rfl, ?_⟩; intro W hSw; (try dsimp only at hSw); have s5 := hSw.cell (by dsimp only; omega) HC5.out.1; have t5 := hSw.cell (by have := HP9.out; dsimp only; omega) HC5.out.2.1; have a0 := hSw.cell (by have := HKB.out; dsimp only; omega) HC5.out.2.2; go_simp; (try with_reducible rfl))
        try simp only [Act.put, List.setIfInBounds_toArray, List.set_cons_zero, List.set_cons_succ]
        refine wpAnyH_take (i := 2) (oi := ?o2x18) (v := ?v2x18) ?hi2x18 (by kernel_rfl) (by kernel_rfl) (by kernel_rfl) ?hQ2x18 ?hy2x18 hHeld ?rest2x18
        case hi2x18 => (simp only [List.getElem?_toArray, List.getElem?_cons_succ, List.getElem?_cons_zero]; rfl)
        case hQ2x18 => exact fun _ _ _ h => h
        case hy2x18 => (refine Or.inl ⟨by rfl, ?_⟩; intro W hSw; (try dsimp only at hSw); go_simp; (try with_reducible rfl))
        try simp only [Act.put, List.setIfInBounds_toArray, List.set_cons_zero, List.set_cons_succ]
        refine wpAnyH_take (i := 3) (oi := ?o3x19) (v := ?v3x19) ?hi3x19 (by kernel_rfl) (by kernel_rfl) (by kernel_rfl) ?hQ3x19 ?hy3x19 hHeld ?rest3x19
        case hi3x19 => (simp only [List.getElem?_toArray, List.getElem?_cons_succ, List.getElem?_cons_zero]; rfl)
        case hQ3x19 => exact fun _ _ _ h => h
        case hy3x19 => (refine Or.inl ⟨by rfl, ?_⟩; intro W hSw; (try dsimp only at hSw); have s5 := hSw.cell (by dsimp only; omega) HC5.out.1; have t5 := hSw.cell (by have := HP9.out; dsimp only; omega) HC5.out.2.1; have a0 := hSw.cell (by have := HKB.out; dsimp only; omega) HC5.out.2.2; go_simp; (try with_reducible rfl))
        try simp only [Act.put, List.setIfInBounds_toArray, List.set_cons_zero, List.set_cons_succ]
        refine wpAnyH_take (i := 4) (oi := ?o4x20) (v := ?v4x20) ?hi4x20 (by kernel_rfl) (by kernel_rfl) (by kernel_rfl) ?hQ4x20 ?hy4x20 hHeld ?rest4x20
        case hi4x20 => (simp only [List.getElem?_toArray, List.getElem?_cons_succ, List.getElem?_cons_zero]; rfl)
        case hQ4x20 => exact fun _ _ _ h => h
        case hy4x20 => (refine Or.inl ⟨by rfl, ?_⟩; intro W hSw; (try dsimp only at hSw); go_simp; (try with_reducible rfl))
        try simp only [Act.put, List.setIfInBounds_toArray, List.set_cons_zero, List.set_cons_succ]
        refine wpAnyH_take (i := 5) (oi := ?o5x21) (v := ?v5x21) ?hi5x21 (by kernel_rfl) (by kernel_rfl) (by kernel_rfl) ?hQ5x21 ?hy5x21 hHeld ?rest5x21
        case hi5x21 => (simp only [List.getElem?_toArray, List.getElem?_cons_succ, List.getElem?_cons_zero]; rfl)
        case hQ5x21 => exact fun _ _ _ h => h
        case hy5x21 => (refine Or.inl ⟨by rfl, ?_⟩; intro W hSw; (try dsimp only at hSw); go_simp; (try with_reducible rfl))
        try simp only [Act.put, List.setIfInBounds_toArray, List.set_cons_zero, List.set_cons_succ]
        refine wpAnyH_take (i := 6) (oi := ?o6x22) (v := ?v6x22) ?hi6x22 (by kernel_rfl) (by kernel_rfl) (by kernel_rfl) ?hQ6x22 ?hy6x22 hHeld ?rest6x22
        case hi6x22 => (simp only [List.getElem?_toArray, List.getElem?_cons_succ, List.getElem?_cons_zero]; rfl)
        case hQ6x22 => exact fun _ _ _ h => h
        case hy6x22 => (refine Or.inl ⟨by rfl, ?_⟩; intro W hSw; (try dsimp only at hSw); have s5 := hSw.cell (by dsimp only; omega) HC5.out.1; have t5 := hSw.cell (by have := HP9.out; dsimp only; omega) HC5.out.2.1; have a0 := hSw.cell (by have := HKB.out; dsimp only; omega) HC5.out.2.2; go_simp; (try with_reducible rfl))
        try simp only [Act.put, List.setIfInBounds_toArray, List.set_cons_zero, List.set_cons_succ]
        refine wpAnyH_take (i := 7) (oi := ?o7x23) (v := ?v7x23) ?hi7x23 (by kernel_rfl) (by kernel_rfl) (by kernel_rfl) ?hQ7x23 ?hy7x23 hHeld ?rest7x23
        case hi7x23 => (simp only [List.getElem?_toArray, List.getElem?_cons_succ, List.getElem?_cons_zero]; rfl)
        case hQ7x23 => exact fun _ _ _ h => h
        case hy7x23 => (refine Or.inl ⟨by rfl, ?_⟩; intro W hSw; (try dsimp only at hSw); go_simp; (try with_reducible rfl))
        try simp only [Act.put, List.setIfInBounds_toArray, List.set_cons_zero, List.set_cons_succ]
        refine wpAnyH_ready (rs := [8]) (by kernel_rfl) (by simp) ?_
        refine (AllReadyH.cons rfl (fun K hK => ?_) AllReadyH.nil)
        go_simp
        (with_reducible refine Calls.mono (turn_any zj n (by have := HN.out; omega) (by have := HN.out; omega) _) ?_)
        rintro e wt ⟨⟨y, hy, rfl⟩, hkt⟩
        have hkta : Kept wr wt := ⟨hkt.os, hkt.tape, hkt.output, hkt.size, hkt.block⟩
        have HKT := Lib.hid hkta
        have HY := Lib.hid hy
        have HS3 : Hid (Same (p10 + 1) wr wt) := Lib.hid (Same.of_kept hkta (by have := HG.out.lt; omega))
        clear hkt hkta hy
        refine hK.out _ _ ?_ (fun hHeld => ?_)
        · (exact HS3.out)
        clear hK K
        try simp only [Act.put, List.setIfInBounds_toArray, List.set_cons_zero, List.set_cons_succ]
        refine wpAnyH_ready (rs := [9]) (by kernel_rfl) (by simp) ?_
        refine (AllReadyH.cons rfl (fun K hK => ?_) AllReadyH.nil)
        go_simp
        refine hK.out _ _ ?_ (fun hHeld => ?_)
        · (exact HS3.out.trans (Same.of_kept ((Below.refl _ wt).alloc (Nat.le_refl _) _) (by have := HG.out.lt; have := HKT.out.size; omega)))
        clear hK K
        try simp only [Act.put, List.setIfInBounds_toArray, List.set_cons_zero, List.set_cons_succ]
        have hk4 : Kept wr (wt.alloc (.cells #[.int .i64 (y : Int)] 3)) := HKT.out.trans ((Below.refl _ wt).alloc (Nat.le_refl _) _)
        have HG4 := Lib.hid (HG.out.below hk4)
        have HS5 : Hid (Same (p10 + 1) wr (wt.alloc (.cells #[.int .i64 (y : Int)] 3))) := Lib.hid (Same.of_kept hk4 (by have := HG.out.lt; omega))
        clear hk4
        refine wpAnyH_ready (rs := [10]) (by kernel_rfl) (by simp) ?_
        refine (AllReadyH.cons rfl (fun K hK => ?_) AllReadyH.nil)
        refine step_append_lies _ rfl (.tmp 66) (.tmp 74) 43 rfl (p10 + 1) 3 i0 (.int .i64 0) 1 8 Tryz.underlying43 HI.out.1 HI.out.2.1 HI.out.2.2.1 HI.out.2.2.2 rfl (by omega) _ ks.length _ rfl HG4.out.2.2.2.1 ⟨wt.heap.size, 0, none⟩ 1 1 [.int .i64 (y : Int)] rfl rfl (cell_one_new _ _ _) (by intro u hu; simp at hu; subst hu; rfl) (by omega) (by simp only [maxLen]; have := HLT.out; omega) (by have := HLT.out; omega) (by have := HG4.out.lt; omega) _ rfl ?_
        intro g2 cap2 w5 ho2 hg2 hat hgl
        have HST5 := Lib.hid (NI.step HG4.out HY.out ho2 hg2)
        clear ho2 hg2 hat hgl
        refine hK.out _ _ ?_ (fun hHeld => ?_)
        · (exact HS5.out.trans (HST5.out.2.2.1))
        clear hK K
        try simp only [Act.put, List.setIfInBounds_toArray]
        refine wpAnyH_take (i := 11) (oi := ?o11x24) (v := ?v11x24) ?hi11x24 (by kernel_rfl) (by kernel_rfl) (by kernel_rfl) ?hQ11x24 ?hy11x24 hHeld ?rest11x24
        case hi11x24 => (simp only [List.getElem?_toArray, List.getElem?_cons_succ, List.getElem?_cons_zero]; rfl)
        case hQ11x24 => exact fun _ _ _ h => h
        case hy11x24 => (refine Or.inl ⟨by rfl, ?_⟩; intro W hSw; (try dsimp only at hSw); go_simp; (try with_reducible rfl))
        try simp only [Act.put]
        refine wpAnyH_done (by kernel_rfl) ?_ _
        simp only [lastQ]
        have d5 := HST5.out.1
        have dz := HST5.out.2.1
        have HG5 := Lib.hid HST5.out.2.2.2
        clear hHeld s5
        go_wp2_with fail
        exact ⟨⟨j + 1, ks ++ [y], _, by go_num, by have := HLT.out; omega, by have := HLT.out; omega, by have := HLT.out; simp; omega, trivial, by simpa using HG5.out⟩, by have := HLT.out; simp [intOf]; omega⟩
      · have HJ := Lib.hid hj
        have HB9 := Lib.hid (setRow_heap _ _ _ #[.int .i64 k, .bool b3, .slice B3 l3.length c3, .int .u64 (q3 : Int), .string T3, .slice KA ks.length kc] _ _ (HBZ4.out.below HG.out.1))
        have HEND : Hid (ND n i (fun b => w.heap.size ≤ b) (wr.setRow (w.heap.size + 1 + 1) #[.int .i64 k, .bool b3, .slice B3 l3.length c3, .int .u64 (q3 : Int), .string T3, .slice KA ks.length kc]) (.agg #[.int .i64 k, .bool b3, .slice B3 l3.length c3, .int .u64 (q3 : Int), .string T3, .slice KA ks.length kc]) ∧ Kept w (wr.setRow (w.heap.size + 1 + 1) #[.int .i64 k, .bool b3, .slice B3 l3.length c3, .int .u64 (q3 : Int), .string T3, .slice KA ks.length kc])) := Lib.hid (by
          have h1 := HP9.out
          refine ⟨?_, below_setRow (HK0.out.trans (HU.out.1.trans HG.out.1)) (by omega) _⟩
          refine ⟨k, b3, B3, c3, l3, q3, T3, KA, kc, ks, rfl, ?_⟩
          have hA : Sl (wr.setRow (w.heap.size + 1 + 1) #[.int .i64 k, .bool b3, .slice B3 l3.length c3, .int .u64 (q3 : Int), .string T3, .slice KA ks.length kc]) B3 c3 (by8 l3) := sl_same2 (F := fun b => W.heap.size ≤ b) (HU.out.2.2.below HG.out.1) (fun b off e hl => HVP.out.2.1 b off e (fun e2 => hl (by rw [e2]; rfl))) (fun b hb _ => setRow_other _ _ _ _ (by omega))
          have hB : Sl (wr.setRow (w.heap.size + 1 + 1) #[.int .i64 k, .bool b3, .slice B3 l3.length c3, .int .u64 (q3 : Int), .string T3, .slice KA ks.length kc]) KA kc (i64s ks) := sl_same2 (F := fun b => p10 + 1 ≤ b) HFR.out.1 (fun b off e hl => (HFR.out.2 b off e).1) (fun b hb _ => setRow_other _ _ _ _ (by omega))
          have hm := HG.out.2.2.2.2.1
          have hN := HN.out
          refine ⟨hA, fun b off e hl => ?_, hB, fun b off e hl => ?_, HVP.out.2.2.1, HVP.out.2.2.2.1, HVP.out.2.2.2.2, H0.out.1, H0.out.2, HKS.out, fun d hd => ?_, (fun h => absurd H6.out h), (fun h _ => absurd H6.out h)⟩
          · have : W.heap.size ≤ b := HVP.out.2.1 b off e (fun e2 => hl (by rw [e2]; rfl))
            show w.heap.size ≤ b
            omega
          · have := (HFR.out.2 b off e).1
            show w.heap.size ≤ b
            omega
          · have := hm d hd
            omega)
        by_cases hin : j < zs.length
        · have i1 : (j : Int) < (zs.length : Int) := by omega
          by_cases hin2 : j < 32
          · have i2 : (j : Int) < 32 := by omega
            have i3 : ¬ (ks.length : Int) < 8 := by omega
            clear hlt hj hj32 hks hcd hG hin hin2
            go_wp2_with (first | (refine wpList_load_row rfl 45 (.tmp 10) rfl p10 rfl _ _ (0, 0) _ HG.out.2.2.1 Tryz.underlying45 rfl (by exact info_Nd) ?_; generalize hA : Act.put _ _ _ = A9) | (refine wpList_store_row rfl 45 (.tmp 8) (.tmp 162) rfl (w.heap.size + 1 + 1) #[.int .i64 k, .bool b3, .slice B3 l3.length c3, .int .u64 (q3 : Int), .string T3, .slice KA ks.length kc] (by subst hA; rfl) (by subst hA; rfl) 45 _ (HBZ4.out.below HG.out.1) info_Nd rfl (by simp [Value.oneCell']) ?_))
            subst hA
            exact bodyPost_blk rfl rfl HB9.out Tryz.underlying45 rfl (by exact info_Nd) rfl ⟨⟨_, rfl, HEND.out.1⟩, HEND.out.2⟩
          · have i2 : ¬ (j : Int) < 32 := by omega
            clear hlt hj hj32 hks hcd hG hin hin2
            go_wp2_with (first | (refine wpList_load_row rfl 45 (.tmp 10) rfl p10 rfl _ _ (0, 0) _ HG.out.2.2.1 Tryz.underlying45 rfl (by exact info_Nd) ?_; generalize hA : Act.put _ _ _ = A9) | (refine wpList_store_row rfl 45 (.tmp 8) (.tmp 162) rfl (w.heap.size + 1 + 1) #[.int .i64 k, .bool b3, .slice B3 l3.length c3, .int .u64 (q3 : Int), .string T3, .slice KA ks.length kc] (by subst hA; rfl) (by subst hA; rfl) 45 _ (HBZ4.out.below HG.out.1) info_Nd rfl (by simp [Value.oneCell']) ?_))
            subst hA
            exact bodyPost_blk rfl rfl HB9.out Tryz.underlying45 rfl (by exact info_Nd) rfl ⟨⟨_, rfl, HEND.out.1⟩, HEND.out.2⟩
        · have i1 : ¬ (j : Int) < (zs.length : Int) := by omega
          clear hlt hj hj32 hks hcd hG hin
          go_wp2_with (first | (refine wpList_load_row rfl 45 (.tmp 10) rfl p10 rfl _ _ (0, 0) _ HG.out.2.2.1 Tryz.underlying45 rfl (by exact info_Nd) ?_; generalize hA : Act.put _ _ _ = A9) | (refine wpList_store_row rfl 45 (.tmp 8) (.tmp 162) rfl (w.heap.size + 1 + 1) #[.int .i64 k, .bool b3, .slice B3 l3.length c3, .int .u64 (q3 : Int), .string T3, .slice KA ks.length kc] (by subst hA; rfl) (by subst hA; rfl) 45 _ (HBZ4.out.below HG.out.1) info_Nd rfl (by simp [Value.oneCell']) ?_))
          subst hA
          exact bodyPost_blk rfl rfl HB9.out Tryz.underlying45 rfl (by exact info_Nd) rfl ⟨⟨_, rfl, HEND.out.1⟩, HEND.out.2⟩
  · go_simp
    have ka0 : Kept W.drew (W.drew.alloc (.cells #[.int .i64 0, .bool false, .slice none 0 0, .int .u64 0, .string ⟨#[]⟩, .slice none 0 0] 33)) := (Below.refl _ _).alloc (Nat.le_refl _) _
    have ka : Kept W (W.drew.alloc (.cells #[.int .i64 0, .bool false, .slice none 0 0, .int .u64 0, .string ⟨#[]⟩, .slice none 0 0] 33)) := ⟨ka0.os, ka0.tape, ka0.output, ka0.size, ka0.block⟩
    have HBP0 := Lib.hid (Blk.new W.drew 33 #[.int .i64 0, .bool false, .slice none 0 0, .int .u64 0, .string ⟨#[]⟩, .slice none 0 0])
    refine hK.out _ _ ?_ (fun hHeld => ?_)
    · (exact ka)
    clear hK K
    try simp only [Act.put, List.setIfInBounds_toArray, List.set_cons_zero, List.set_cons_succ]
    refine wpAnyH_ready (rs := [16]) (by kernel_rfl) (by simp) ?_
    refine (AllReadyH.cons rfl (fun K hK => ?_) AllReadyH.nil)
    go_simp
    (with_reducible refine Calls.mono (HCL.out _ _ (by go_grown)) ?_)
    rintro e w3 ⟨⟨v3, rfl, hv3⟩, hk3⟩
    have hk3a : Kept W w3 := ka.trans hk3
    have HBP : Hid (Blk w3 W.heap.size 33 #[.int .i64 0, .bool false, .slice none 0 0, .int .u64 0, .string ⟨#[]⟩, .slice none 0 0]) := Lib.hid (Blk.below HBP0.out hk3)
    have HK3 := Lib.hid hk3a
    obtain ⟨b3, B3, c3, l3, q3, T3, K3, n3, e3, rfl, g1, g2, g3, g4, g5, _⟩ := hv3
    have HVP : Hid (Sl w3 B3 c3 (by8 l3) ∧ (∀ b off, B3 = some ⟨b, off, none⟩ → l3 ≠ [] → W.heap.size ≤ b) ∧ l3.length ≤ 40 ∧ (∀ d, d ∈ l3 → d < 256) ∧ (k = 1 → q3 ≤ 1)) := Lib.hid ⟨g1, (fun b off e hl => Nat.le_trans ka.size (g2 b off e hl)), g3, g4, g5⟩
    have HVQ : Hid (∀ b off, B3 = some ⟨b, off, none⟩ → by8 l3 ≠ [] → W.heap.size < b) := Lib.hid (fun b off e hl => by have h1 := g2 b off e (fun e2 => hl (by rw [e2]; rfl)); have h2 : W.heap.size + 1 ≤ b := (by simpa using h1); omega)
    clear hk3 hk3a g1 g2 g3 g4 g5 ka0 ka HBP0
    refine hK.out _ _ ?_ (fun hHeld => ?_)
    · (exact HK3.out)
    clear hK K
    try simp only [Act.put, List.setIfInBounds_toArray, List.set_cons_zero, List.set_cons_succ]
    refine wpAnyH_done (by kernel_rfl) ?_ _
    simp only [lastQ]
    clear hHeld
    have hst := run_storeVar_row (P := Tryz.prog) w3 W.heap.size 33 33 _ #[.int .i64 k, .bool b3, .slice B3 l3.length c3, .int .u64 (q3 : Int), .string T3, .slice K3 n3 e3] HBP.out info_Vl rfl (by simp [Value.oneCell'])
    simp [go_sem] at hst
    have hb9 : Blk (w3.setRow W.heap.size #[.int .i64 k, .bool b3, .slice B3 l3.length c3, .int .u64 (q3 : Int), .string T3, .slice K3 n3 e3]) W.heap.size 33 #[.int .i64 k, .bool b3, .slice B3 l3.length c3, .int .u64 (q3 : Int), .string T3, .slice K3 n3 e3] := setRow_heap _ _ _ _ _ _ HBP.out
    have y0 := hb9.cell 0
    have y1 := hb9.cell 1
    have y2 := hb9.cell 2
    have y3 := hb9.cell 3
    have y4 := hb9.cell 4
    clear hb9
    go_wp2_with fail
    clear y0 y1 y2 y3 y4 hst
    have hzs : (w3.setRow W.heap.size #[.int .i64 k, .bool b3, .slice B3 l3.length c3, .int .u64 (q3 : Int), .string T3, .slice K3 n3 e3]).heap.size = w3.heap.size := by simp [World.setRow]
    try rw [hzs]
    have HST0 : ∃ u p9 p10, p9 = W.heap.size ∧ p10 = w3.heap.size ∧ Hid (Kept W u ∧ W.heap.size ≤ p9 ∧ Sl u B3 c3 (by8 l3)) ∧ Hid (NI u p9 p10 #[.int .i64 k, .bool b3, .slice B3 l3.length c3, .int .u64 (q3 : Int), .string T3, .slice K3 n3 e3] k b3 B3 l3.length c3 (q3 : Int) T3 ((w3.setRow p9 #[.int .i64 k, .bool b3, .slice B3 l3.length c3, .int .u64 (q3 : Int), .string T3, .slice K3 n3 e3]).alloc (.cells #[.int .i64 k, .bool b3, .slice B3 l3.length c3, .int .u64 (q3 : Int), .string T3, .slice none 0 0] 45)) n [] (.slice none 0 0)) := ⟨w3.setRow W.heap.size #[.int .i64 k, .bool b3, .slice B3 l3.length c3, .int .u64 (q3 : Int), .string T3, .slice K3 n3 e3], _, _, rfl, rfl, Lib.hid ⟨below_setRow HK3.out (Nat.le_refl _) _, Nat.le_refl _, sl_same2 (F := fun b => W.heap.size < b) HVP.out.1 (fun b off e hl => HVQ.out b off e hl) (fun b hb _ => setRow_other _ _ _ _ (by omega))⟩, Lib.hid (NI.startB HBP.out n)⟩
    obtain ⟨u, p9, p10, e9, e10, HU, HST⟩ := HST0
    rw [← e10, ← e9]
    clear e9 e10 hzs
    generalize ((w3.setRow p9 #[.int .i64 k, .bool b3, .slice B3 l3.length c3, .int .u64 (q3 : Int), .string T3, .slice K3 n3 e3]).alloc (.cells #[.int .i64 k, .bool b3, .slice B3 l3.length c3, .int .u64 (q3 : Int), .string T3, .slice none 0 0] 45)) = W4 at *
    have HB4 := Lib.hid (HBX.out.below HU.out.1)
    have HS4 := Lib.hid (HSZ.out.below HU.out.1)
    have HBZ4 := Lib.hid (HBZ.out.below HU.out.1)
    have HP9 : Hid (w.heap.size + 1 + 1 + 1 ≤ p9 ∧ p9 < p10 ∧ W.heap.size = w.heap.size + 1 + 1 + 1) := Lib.hid ⟨by have := HS1.out; have := HU.out.2.1; omega, HST.out.2.2.2.2.2.2, HS1.out⟩
    go_loopw [12] (fun iv wr => ∃ (j : Nat) (ks : List Nat) (sv : Value), iv = .int .i64 (j : Int) ∧ j ≤ zs.length ∧ j ≤ 32 ∧ ks.length ≤ 8 ∧ True ∧ NI u p9 p10 #[.int .i64 k, .bool b3, .slice B3 l3.length c3, .int .u64 (q3 : Int), .string T3, .slice K3 n3 e3] k b3 B3 l3.length c3 (q3 : Int) T3 wr n ks sv) (fun iv _ => 40 - (intOf iv).toNat)
    case atStart => exact ⟨0, [], _, rfl, by omega, by omega, by simp, by simp, HST.out⟩
    case round =>
      obtain ⟨j, ks, sv, rfl, hj, hj32, hks, hcd, hG⟩ := hrel
      have HG := Lib.hid hG
      have HKS := Lib.hid hks
      have HCD := Lib.hid hcd
      obtain ⟨KA, kc, esv, hsl, hfr⟩ := own_sl (show wr.ownsRow (p10 + 1) 3 1 sv (i64s ks).length (i64s ks) by have := hG.2.2.2.1; rw [show (i64s ks).length = ks.length by simp [i64s]]; exact this)
      rw [show (i64s ks).length = ks.length by simp [i64s]] at esv
      subst esv
      have t5 := (HB4.out.below HG.out.1).cell 5
      have s5 := HG.out.2.2.1.cell 5
      have k0 := HG.out.2.1.cell 0
      have i0' : (0 : Int) ≤ (j : Int) := by omega
      have HFR := Lib.hid (And.intro hsl hfr)
      clear hsl hfr
      by_cases hlt : j < zs.length ∧ j < 32 ∧ ks.length < 8
      · have i1 : (j : Int) < (zs.length : Int) := by omega
        have i2 : (j : Int) < 32 := by omega
        have i3 : (ks.length : Int) < 8 := by omega
        have HLT := Lib.hid hlt
        obtain ⟨kb, ko, rfl, hcd2⟩ := (HS4.out.below HG.out.1).at_ (fun e2 => by have h9 := congrArg List.length e2; have := hlt.1; unfold ints at h9; rw [List.length_map] at h9; simp only [List.length_nil] at h9; omega)
        have hz1 : (ints zs)[j]? = some (.int .i64 (zs[j]'hlt.1)) := by unfold ints; rw [List.getElem?_map, List.getElem?_eq_getElem hlt.1]; rfl
        have a0 := hcd2 j _ hz1
        have hkb : kb < p10 := by
          obtain ⟨kb', ko', ekb, hcd3⟩ := HSZ.out.at_ (fun e2 => by rw [e2] at hz1; cases hz1)
          injection ekb with ekb
          injection ekb with ekb
          subst ekb
          have h8 : kb < W.heap.size := block_lt_of_cell (hcd3 j _ hz1)
          have := HP9.out
          omega
        have HKB := Lib.hid hkb
        generalize (zs[j]'hlt.1) = zj at *
        have HC5 : Hid (wr.cell? ⟨p10, 5, none⟩ = some (.slice KA ks.length kc) ∧ wr.cell? ⟨w.heap.size, 5, none⟩ = some (.slice (some ⟨kb, ko, none⟩) zs.length ev) ∧ wr.cell? ⟨kb, ko + j, none⟩ = some (.int .i64 zj)) := Lib.hid ⟨s5, t5, a0⟩
        clear hcd2 hz1 a0 hkb hlt hj hj32 hks hcd hG
        go_wp2_with fail
        refine wp_region_lastL _ _ _ (by simp only [List.dropLast]; rfl) (by simp only [List.getLast?_cons_cons, List.getLast?_singleton]; rfl) (fun X : World => Same (p10 + 1) wr X) (by kernel_rfl) (by kernel_rfl) (fun _ _ => rfl) (fun hHeld => ?_)
        refine wpAnyH_take (i := 0) (oi := ?o0x25) (v := ?v0x25) ?hi0x25 (by kernel_rfl) (by kernel_rfl) (by kernel_rfl) ?hQ0x25 ?hy0x25 hHeld ?rest0x25
        case hi0x25 => (simp only [List.getElem?_toArray, List.getElem?_cons_zero]; rfl)
        case hQ0x25 => exact fun _ _ _ h => h
        case hy0x25 => (refine Or.inl ⟨by rfl, ?_⟩; intro W hSw; (try dsimp only at hSw); go_simp; (try with_reducible rfl))
        try simp only [Act.put, List.setIfInBounds_toArray, List.set_cons_zero, List.set_cons_succ]
        refine wpAnyH_take (i := 1) (oi := ?o1x26) (v := ?v1x26) ?hi1x26 (by kernel_rfl) (by kernel_rfl) (by kernel_rfl) ?hQ1x26 ?hy1x26 hHeld ?rest1x26
        case hi1x26 => (simp only [List.getElem?_toArray, List.getElem?_cons_succ, List.getElem?_cons_zero]; rfl)
        case hQ1x26 => exact fun _ _ _ h => h
        case hy1x26 => (refine Or.inl ⟨by rfl, ?_⟩; intro W hSw; (try dsimp only at hSw); have s5 := hSw.cell (by dsimp only; omega) HC5.out.1; have t5 := hSw.cell (by have := HP9.out; dsimp only; omega) HC5.out.2.1; have a0 := hSw.cell (by have := HKB.out; dsimp only; omega) HC5.out.2.2; go_simp; (try with_reducible rfl))
        try simp only [Act.put, List.setIfInBounds_toArray, List.set_cons_zero, List.set_cons_succ]
        refine wpAnyH_take (i := 2) (oi := ?o2x27) (v := ?v2x27) ?hi2x27 (by kernel_rfl) (by kernel_rfl) (by kernel_rfl) ?hQ2x27 ?hy2x27 hHeld ?rest2x27
        case hi2x27 => (simp only [List.getElem?_toArray, List.getElem?_cons_succ, List.getElem?_cons_zero]; rfl)
        case hQ2x27 => exact fun _ _ _ h => h
        case hy2x27 => (refine Or.inl ⟨by rfl, ?_⟩; intro W hSw; (try dsimp only at hSw); go_simp; (try with_reducible rfl))
        try simp only [Act.put, List.setIfInBounds_toArray, List.set_cons_zero, List.set_cons_succ]
        refine wpAnyH_take (i := 3) (oi := ?o3x28) (v := ?v3x28) ?hi3x28 (by kernel_rfl) (by kernel_rfl) (by kernel_rfl) ?hQ3x28 ?hy3x28 hHeld ?rest3x28
        case hi3x28 => (simp only [List.getElem?_toArray, List.getElem?_cons_succ, List.getElem?_cons_zero]; rfl)
        case hQ3x28 => exact fun _ _ _ h => h
        case hy3x28 => (refine Or.inl ⟨by rfl, ?_⟩; intro W hSw; (try dsimp only at hSw); have s5 := hSw.cell (by dsimp only; omega) HC5.out.1; have t5 := hSw.cell (by have := HP9.out; dsimp only; omega) HC5.out.2.1; have a0 := hSw.cell (by have := HKB.out; dsimp only; omega) HC5.out.2.2; go_simp; (try with_reducible rfl))
        try simp only [Act.put, List.setIfInBounds_toArray, List.set_cons_zero, List.set_cons_succ]
        refine wpAnyH_take (i := 4) (oi := ?o4x29) (v := ?v4x29) ?hi4x29 (by kernel_rfl) (by kernel_rfl) (by kernel_rfl) ?hQ4x29 ?hy4x29 hHeld ?rest4x29
        case hi4x29 => (simp only [List.getElem?_toArray, List.getElem?_cons_succ, List.getElem?_cons_zero]; rfl)
        case hQ4x29 => exact fun _ _ _ h => h
        case hy4x29 => (refine Or.inl ⟨by rfl, ?_⟩; intro W hSw; (try dsimp only at hSw); go_simp; (try with_reducible rfl))
        try simp only [Act.put, List.setIfInBounds_toArray, List.set_cons_zero, List.set_cons_succ]
        refine wpAnyH_take (i := 5) (oi := ?o5x30) (v := ?v5x30) ?hi5x30 (by kernel_rfl) (by kernel_rfl) (by kernel_rfl) ?hQ5x30 ?hy5x30 hHeld ?rest5x30
        case hi5x30 => (simp only [List.getElem?_toArray, List.getElem?_cons_succ, List.getElem?_cons_zero]; rfl)
        case hQ5x30 => exact fun _ _ _ h => h
        case hy5x30 => (refine Or.inl ⟨by rfl, ?_⟩; intro W hSw; (try dsimp only at hSw); go_simp; (try with_reducible rfl))
        try simp only [Act.put, List.setIfInBounds_toArray, List.set_cons_zero, List.set_cons_succ]
        refine wpAnyH_take (i := 6) (oi := ?o6x31) (v := ?v6x31) ?hi6x31 (by kernel_rfl) (by kernel_rfl) (by kernel_rfl) ?hQ6x31 ?hy6x31 hHeld ?rest6x31
        case hi6x31 => (simp only [List.getElem?_toArray, List.getElem?_cons_succ, List.getElem?_cons_zero]; rfl)
        case hQ6x31 => exact fun _ _ _ h => h
        case hy6x31 => (refine Or.inl ⟨by rfl, ?_⟩; intro W hSw; (try dsimp only at hSw); have s5 := hSw.cell (by dsimp only; omega) HC5.out.1; have t5 := hSw.cell (by have := HP9.out; dsimp only; omega) HC5.out.2.1; have a0 := hSw.cell (by have := HKB.out; dsimp only; omega) HC5.out.2.2; go_simp; (try with_reducible rfl))
        try simp only [Act.put, List.setIfInBounds_toArray, List.set_cons_zero, List.set_cons_succ]
        refine wpAnyH_take (i := 7) (oi := ?o7x32) (v := ?v7x32) ?hi7x32 (by kernel_rfl) (by kernel_rfl) (by kernel_rfl) ?hQ7x32 ?hy7x32 hHeld ?rest7x32
        case hi7x32 => (simp only [List.getElem?_toArray, List.getElem?_cons_succ, List.getElem?_cons_zero]; rfl)
        case hQ7x32 => exact fun _ _ _ h => h
        case hy7x32 => (refine Or.inl ⟨by rfl, ?_⟩; intro W hSw; (try dsimp only at hSw); go_simp; (try with_reducible rfl))
        try simp only [Act.put, List.setIfInBounds_toArray, List.set_cons_zero, List.set_cons_succ]
        refine wpAnyH_ready (rs := [8]) (by kernel_rfl) (by simp) ?_
        refine (AllReadyH.cons rfl (fun K hK => ?_) AllReadyH.nil)
        go_simp
        (with_reducible refine Calls.mono (turn_any zj n (by have := HN.out; omega) (by have := HN.out; omega) _) ?_)
        rintro e wt ⟨⟨y, hy, rfl⟩, hkt⟩
        have hkta : Kept wr wt := ⟨hkt.os, hkt.tape, hkt.output, hkt.size, hkt.block⟩
        have HKT := Lib.hid hkta
        have HY := Lib.hid hy
        have HS3 : Hid (Same (p10 + 1) wr wt) := Lib.hid (Same.of_kept hkta (by have := HG.out.lt; omega))
        clear hkt hkta hy
        refine hK.out _ _ ?_ (fun hHeld => ?_)
        · (exact HS3.out)
        clear hK K
        try simp only [Act.put, List.setIfInBounds_toArray, List.set_cons_zero, List.set_cons_succ]
        refine wpAnyH_ready (rs := [9]) (by kernel_rfl) (by simp) ?_
        refine (AllReadyH.cons rfl (fun K hK => ?_) AllReadyH.nil)
        go_simp
        refine hK.out _ _ ?_ (fun hHeld => ?_)
        · (exact HS3.out.trans (Same.of_kept ((Below.refl _ wt).alloc (Nat.le_refl _) _) (by have := HG.out.lt; have := HKT.out.size; omega)))
        clear hK K
        try simp only [Act.put, List.setIfInBounds_toArray, List.set_cons_zero, List.set_cons_succ]
        have hk4 : Kept wr (wt.alloc (.cells #[.int .i64 (y : Int)] 3)) := HKT.out.trans ((Below.refl _ wt).alloc (Nat.le_refl _) _)
        have HG4 := Lib.hid (HG.out.below hk4)
        have HS5 : Hid (Same (p10 + 1) wr (wt.alloc (.cells #[.int .i64 (y : Int)] 3))) := Lib.hid (Same.of_kept hk4 (by have := HG.out.lt; omega))
        clear hk4
        refine wpAnyH_ready (rs := [10]) (by kernel_rfl) (by simp) ?_
        refine (AllReadyH.cons rfl (fun K hK => ?_) AllReadyH.nil)
        refine step_append_lies _ rfl (.tmp 66) (.tmp 74) 43 rfl (p10 + 1) 3 i0 (.int .i64 0) 1 8 Tryz.underlying43 HI.out.1 HI.out.2.1 HI.out.2.2.1 HI.out.2.2.2 rfl (by omega) _ ks.length _ rfl HG4.out.2.2.2.1 ⟨wt.heap.size, 0, none⟩ 1 1 [.int .i64 (y : Int)] rfl rfl (cell_one_new _ _ _) (by intro u hu; simp at hu; subst hu; rfl) (by omega) (by simp only [maxLen]; have := HLT.out; omega) (by have := HLT.out; omega) (by have := HG4.out.lt; omega) _ rfl ?_
        intro g2 cap2 w5 ho2 hg2 hat hgl
        have HST5 := Lib.hid (NI.step HG4.out HY.out ho2 hg2)
        clear ho2 hg2 hat hgl
        refine hK.out _ _ ?_ (fun hHeld => ?_)
        · (exact HS5.out.trans (HST5.out.2.2.1))
        clear hK K
        try simp only [Act.put, List.setIfInBounds_toArray]
        refine wpAnyH_take (i := 11) (oi := ?o11x33) (v := ?v11x33) ?hi11x33 (by kernel_rfl) (by kernel_rfl) (by kernel_rfl) ?hQ11x33 ?hy11x33 hHeld ?rest11x33
        case hi11x33 => (simp only [List.getElem?_toArray, List.getElem?_cons_succ, List.getElem?_cons_zero]; rfl)
        case hQ11x33 => exact fun _ _ _ h => h
        case hy11x33 => (refine Or.inl ⟨by rfl, ?_⟩; intro W hSw; (try dsimp only at hSw); go_simp; (try with_reducible rfl))
        try simp only [Act.put]
        refine wpAnyH_done (by kernel_rfl) ?_ _
        simp only [lastQ]
        have d5 := HST5.out.1
        have dz := HST5.out.2.1
        have HG5 := Lib.hid HST5.out.2.2.2
        clear hHeld s5
        go_wp2_with fail
        exact ⟨⟨j + 1, ks ++ [y], _, by go_num, by have := HLT.out; omega, by have := HLT.out; omega, by have := HLT.out; simp; omega, trivial, by simpa using HG5.out⟩, by have := HLT.out; simp [intOf]; omega⟩
      · have HJ := Lib.hid hj
        have HB9 := Lib.hid (setRow_heap _ _ _ #[.int .i64 k, .bool b3, .slice B3 l3.length c3, .int .u64 (q3 : Int), .string T3, .slice KA ks.length kc] _ _ (HBZ4.out.below HG.out.1))
        have HEND : Hid (ND n i (fun b => w.heap.size ≤ b) (wr.setRow (w.heap.size + 1 + 1) #[.int .i64 k, .bool b3, .slice B3 l3.length c3, .int .u64 (q3 : Int), .string T3, .slice KA ks.length kc]) (.agg #[.int .i64 k, .bool b3, .slice B3 l3.length c3, .int .u64 (q3 : Int), .string T3, .slice KA ks.length kc]) ∧ Kept w (wr.setRow (w.heap.size + 1 + 1) #[.int .i64 k, .bool b3, .slice B3 l3.length c3, .int .u64 (q3 : Int), .string T3, .slice KA ks.length kc])) := Lib.hid (by
          have h1 := HP9.out
          refine ⟨?_, below_setRow (HK0.out.trans (HU.out.1.trans HG.out.1)) (by omega) _⟩
          refine ⟨k, b3, B3, c3, l3, q3, T3, KA, kc, ks, rfl, ?_⟩
          have hA : Sl (wr.setRow (w.heap.size + 1 + 1) #[.int .i64 k, .bool b3, .slice B3 l3.length c3, .int .u64 (q3 : Int), .string T3, .slice KA ks.length kc]) B3 c3 (by8 l3) := sl_same2 (F := fun b => W.heap.size ≤ b) (HU.out.2.2.below HG.out.1) (fun b off e hl => HVP.out.2.1 b off e (fun e2 => hl (by rw [e2]; rfl))) (fun b hb _ => setRow_other _ _ _ _ (by omega))
          have hB : Sl (wr.setRow (w.heap.size + 1 + 1) #[.int .i64 k, .bool b3, .slice B3 l3.length c3, .int .u64 (q3 : Int), .string T3, .slice KA ks.length kc]) KA kc (i64s ks) := sl_same2 (F := fun b => p10 + 1 ≤ b) HFR.out.1 (fun b off e hl => (HFR.out.2 b off e).1) (fun b hb _ => setRow_other _ _ _ _ (by omega))
          have hm := HG.out.2.2.2.2.1
          have hN := HN.out
          refine ⟨hA, fun b off e hl => ?_, hB, fun b off e hl => ?_, HVP.out.2.2.1, HVP.out.2.2.2.1, HVP.out.2.2.2.2, H0.out.1, H0.out.2, HKS.out, fun d hd => ?_, (fun h => absurd H6.out h), (fun h _ => absurd H6.out h)⟩
          · have : W.heap.size ≤ b := HVP.out.2.1 b off e (fun e2 => hl (by rw [e2]; rfl))
            show w.heap.size ≤ b
            omega
          · have := (HFR.out.2 b off e).1
            show w.heap.size ≤ b
            omega
          · have := hm d hd
            omega)
        by_cases hin : j < zs.length
        · have i1 : (j : Int) < (zs.length : Int) := by omega
          by_cases hin2 : j < 32
          · have i2 : (j : Int) < 32 := by omega
            have i3 : ¬ (ks.length : Int) < 8 := by omega
            clear hlt hj hj32 hks hcd hG hin hin2
            go_wp2_with (first | (refine wpList_load_row rfl 45 (.tmp 10) rfl p10 rfl _ _ (0, 0) _ HG.out.2.2.1 Tryz.underlying45 rfl (by exact info_Nd) ?_; generalize hA : Act.put _ _ _ = A9) | (refine wpList_store_row rfl 45 (.tmp 8) (.tmp 162) rfl (w.heap.size + 1 + 1) #[.int .i64 k, .bool b3, .slice B3 l3.length c3, .int .u64 (q3 : Int), .string T3, .slice KA ks.length kc] (by subst hA; rfl) (by subst hA; rfl) 45 _ (HBZ4.out.below HG.out.1) info_Nd rfl (by simp [Value.oneCell']) ?_))
            subst hA
            exact bodyPost_blk rfl rfl HB9.out Tryz.underlying45 rfl (by exact info_Nd) rfl ⟨⟨_, rfl, HEND.out.1⟩, HEND.out.2⟩
          · have i2 : ¬ (j : Int) < 32 := by omega
            clear hlt hj hj32 hks hcd hG hin hin2
            go_wp2_with (first | (refine wpList_load_row rfl 45 (.tmp 10) rfl p10 rfl _ _ (0, 0) _ HG.out.2.2.1 Tryz.underlying45 rfl (by exact info_Nd) ?_; generalize hA : Act.put _ _ _ = A9) | (refine wpList_store_row rfl 45 (.tmp 8) (.tmp 162) rfl (w.heap.size + 1 + 1) #[.int .i64 k, .bool b3, .slice B3 l3.length c3, .int .u64 (q3 : Int), .string T3, .slice KA ks.length kc] (by subst hA; rfl) (by subst hA; rfl) 45 _ (HBZ4.out.below HG.out.1) info_Nd rfl (by simp [Value.oneCell']) ?_))
            subst hA
            exact bodyPost_blk rfl rfl HB9.out Tryz.underlying45 rfl (by exact info_Nd) rfl ⟨⟨_, rfl, HEND.out.1⟩, HEND.out.2⟩
        · have i1 : ¬ (j : Int) < (zs.length : Int) := by omega
          clear hlt hj hj32 hks hcd hG hin
          go_wp2_with (first | (refine wpList_load_row rfl 45 (.tmp 10) rfl p10 rfl _ _ (0, 0) _ HG.out.2.2.1 Tryz.underlying45 rfl (by exact info_Nd) ?_; generalize hA : Act.put _ _ _ = A9) | (refine wpList_store_row rfl 45 (.tmp 8) (.tmp 162) rfl (w.heap.size + 1 + 1) #[.int .i64 k, .bool b3, .slice B3 l3.length c3, .int .u64 (q3 : Int), .string T3, .slice KA ks.length kc] (by subst hA; rfl) (by subst hA; rfl) 45 _ (HBZ4.out.below HG.out.1) info_Nd rfl (by simp [Value.oneCell']) ?_))
          subst hA
          exact bodyPost_blk rfl rfl HB9.out Tryz.underlying45 rfl (by exact info_Nd) rfl ⟨⟨_, rfl, HEND.out.1⟩, HEND.out.2⟩
end Go.Proofs.YtoociokhldakbaaGreat
