import Derived.Test.YtikjdibngkcpkaaR6
import Derived.Test.YtikjdibngkcpkaaRs
import Derived.DataShut
namespace Go.Proofs.Ytikjdibngkcpkaa
open Go.ChangeShapes Go.WideShapes Go.ChangeAt Go.RowKit
set_option linter.unusedVariables false
theorem zof_lt (b : Bool) (l : List Nat) (most : Nat) (hd : ∀ d ∈ l, d < 256) : (zof b l most).natAbs < 256 ^ most := by
  have h1 := Num.le_lt 256 (by omega) (l.take (min l.length most)).reverse (fun d h => hd d (List.mem_of_mem_take (List.mem_reverse.1 h)))
  have h0 : (l.take (min l.length most)).reverse.length ≤ most := by
    rw [List.length_reverse, List.length_take]
    omega
  have h2 : 256 ^ (l.take (min l.length most)).reverse.length ≤ 256 ^ most := Nat.pow_le_pow_right (by omega) h0
  have h3 : (zof b l most).natAbs = Num.le 256 (l.take (min l.length most)).reverse := by unfold zof sgn; split <;> simp
  rw [h3]
  omega
theorem shr_all (z : Int) (n : Nat) (h : z.natAbs < 2 ^ n) : z / ((2 ^ n : Nat) : Int) = if z < 0 then -1 else 0 := by
  generalize 2 ^ n = p at *
  split
  · have e : z = ((p - z.natAbs : Nat) : Int) + (p : Int) * (-1) := by omega
    rw [e, Int.add_mul_ediv_left _ _ (by omega), Int.ediv_eq_zero_of_lt (by omega) (by omega)]
    rfl
  · exact Int.ediv_eq_zero_of_lt (by omega) (by omega)
theorem shr_min (z : Int) (k n : Nat) (hk : 8 * k ≤ 10000) (h : z.natAbs < 256 ^ k) : z / ((2 ^ n : Nat) : Int) = z / ((2 ^ (min n 10000) : Nat) : Int) := by
  by_cases hn : n ≤ 10000
  · rw [Nat.min_eq_left hn]
  · rw [Nat.min_eq_right (by omega)]
    rw [P256] at h
    have h1 : z.natAbs < 2 ^ n := Nat.lt_of_lt_of_le h (Nat.pow_le_pow_right (by omega) (by omega))
    have h2 : ∀ t, 8 * k ≤ t → z.natAbs < 2 ^ t := fun t ht => Nat.lt_of_lt_of_le h (Nat.pow_le_pow_right (by omega) ht)
    rw [shr_all z n h1, shr_all z 10000 (h2 10000 hk)]
set_option maxRecDepth 100000 in
set_option maxHeartbeats 4000000 in
theorem FnIntRsh_any (b : Bool) (A : Option Addr) (c : Nat) (l : List Nat) (hd : ∀ d ∈ l, d < 256) (nI : Int) (hn0 : 0 ≤ nI) (hn1 : nI < 18446744073709551616) (w : World) (hs : Sl w A c (by8 l)) :
    Calls Try.prog 6 #[.bool b, .slice A l.length c, .int .u64 nI] w fun e w' => e = .returned (.bool true) ∧ Kept w w' := by
  obtain ⟨N, rfl⟩ := Int.eq_ofNat_of_zero_le hn0
  have hN : N < 18446744073709551616 := by omega
  have HS := Lib.hid hs
  have HD := Lib.hid hd
  clear hs hd hn0 hn1
  by_cases hl : l.length ≤ 2147483647
  · have hl' : ¬ (2147483647 : Int) < (l.length : Int) := by omega
    go_enter Try.func6, Try.ntmps6
    go_wp2_with fail
    refine (whole2_any b A c l 100 hl (by omega) HD.out w HS.out).mono ?_
    have hzc := zof_cap b l 100 HD.out (by omega)
    have hzl := zof_lt b l 100 HD.out
    have hmin := shr_min (zof b l 100) 100 N (by omega) hzl
    generalize zof b l 100 = z at *
    rintro e w1 ⟨v1, v2, rfl, hv1, hv2, hk1⟩
    have HX := Lib.hid hv1.toSI
    obtain ⟨f, XX, n, e', rfl⟩ := hv1.two
    obtain ⟨P, d, m, rfl, q⟩ := hv2
    have HV : Hid (VI w1 (.agg #[.int .i64 2, .bool (decide (z < 0)), .slice P m.length d, .int .u64 0, .string ⟨#[]⟩, .slice none 0 0]) z) := Lib.hid ⟨P, d, m, rfl, q.1, q.2.1⟩
    clear q hv1
    go_wp2_with fail
    have kk : Kept w1 ((w1.alloc (.cells #[.bool f, .slice XX n e'] 24)).alloc (.cells #[.int .i64 2, .bool (decide (z < 0)), .slice P m.length d, .int .u64 0, .string ⟨#[]⟩, .slice none 0 0] 28)) := by go_grown
    have hpx : Blk ((w1.alloc (.cells #[.bool f, .slice XX n e'] 24)).alloc (.cells #[.int .i64 2, .bool (decide (z < 0)), .slice P m.length d, .int .u64 0, .string ⟨#[]⟩, .slice none 0 0] 28)) w1.heap.size 24 #[.bool f, .slice XX n e'] := (Blk.new w1 _ _).below ((Below.refl _ _).alloc (Nat.le_refl _) _)
    have hpv : Blk ((w1.alloc (.cells #[.bool f, .slice XX n e'] 24)).alloc (.cells #[.int .i64 2, .bool (decide (z < 0)), .slice P m.length d, .int .u64 0, .string ⟨#[]⟩, .slice none 0 0] 28)) (w1.heap.size + 1) 28 #[.int .i64 2, .bool (decide (z < 0)), .slice P m.length d, .int .u64 0, .string ⟨#[]⟩, .slice none 0 0] := by
      have := Blk.new (w1.alloc (.cells #[.bool f, .slice XX n e'] 24)) 28 #[.int .i64 2, .bool (decide (z < 0)), .slice P m.length d, .int .u64 0, .string ⟨#[]⟩, .slice none 0 0]
      rwa [World.size_alloc] at this
    generalize ((w1.alloc (.cells #[.bool f, .slice XX n e'] 24)).alloc (.cells #[.int .i64 2, .bool (decide (z < 0)), .slice P m.length d, .int .u64 0, .string ⟨#[]⟩, .slice none 0 0] 28)) = W at *
    have HKW := Lib.hid kk
    have HPX := Lib.hid hpx
    have HPV := Lib.hid hpv
    have HKK : Hid (Kept w W) := Lib.hid (hk1.trans kk)
    have HZC := Lib.hid hzc
    have HZL := Lib.hid hzl
    have HVa := Lib.hid (HV.out.below kk)
    have HXa := Lib.hid (HX.out.below kk)
    obtain ⟨M, hM⟩ : ∃ M, min N 10000 = M := ⟨_, rfl⟩
    rw [hM] at hmin
    obtain ⟨q, hq⟩ : ∃ q, M / 8 = q := ⟨_, rfl⟩
    obtain ⟨r, hr⟩ : ∃ r, M % 8 = r := ⟨_, rfl⟩
    have hMq : M = 8 * q + r := by omega
    have HMI := Lib.hid hmin
    have HQR : Hid (r < 8 ∧ q ≤ 10000) := Lib.hid ⟨by omega, by omega⟩
    have hm1 : min (N : Int) 10000 = 8 * (q : Int) + (r : Int) := by omega
    have hm2 : (if (N : Int) ≤ 10000 then (N : Int) else 10000) = 8 * (q : Int) + (r : Int) := by split <;> omega
    have hm3 : (if (10000 : Int) < (N : Int) then 10000 else (N : Int)) = 8 * (q : Int) + (r : Int) := by split <;> omega
    have hm4 : (if (N : Int) < 10000 then (N : Int) else 10000) = 8 * (q : Int) + (r : Int) := by split <;> omega
    have hwc : IntKind.i64.wrap (8 * (q : Int) + (r : Int)) = 8 * (q : Int) + (r : Int) := by rw [IntKind.wrap_i64]; omega
    have HSR : Hid (∀ X : World, SI X (.agg #[.bool f, .slice XX n e']) z → Calls Try.prog 24 #[.agg #[.bool f, .slice XX n e'], .int .i64 (8 * (q : Int) + (r : Int))] X (RetSI X (z / ((2 ^ N : Nat) : Int)))) := Lib.hid fun X hX => by
      have := sRsh_any f XX n e' z q r HQR.out.1 HQR.out.2 HZL.out X hX
      rwa [← hMq, ← HMI.out] at this
    clear hk1 kk hpx hpv hzc hzl hmin hq hr hMq hM
    refine wp_region_lastL _ _ _ (by simp only [List.dropLast]; rfl) (by simp only [List.getLast?_cons_cons, List.getLast?_singleton]; rfl) (fun X : World => Kept W X) (by kernel_rfl) (by kernel_rfl) (by go_grown) (fun hHeld => ?_)
    refine wpAnyH_take (i := 0) (oi := ?o0x0) (v := (.agg #[.int .i64 2, .bool (decide (z < 0)), .slice P m.length d, .int .u64 0, .string ⟨#[]⟩, .slice none 0 0])) ?hi0x0 (by kernel_rfl) (by kernel_rfl) (by kernel_rfl) ?hQ0x0 ?hy0x0 (by assumption) ?rest0x0
    case hi0x0 => (simp only [List.getElem?_toArray, List.getElem?_cons_zero]; rfl)
    case hQ0x0 => exact fun _ _ _ h => h
    case hy0x0 => exact yields_load_row (by rfl) 28 (.tmp 8) (by rfl) (w1.heap.size + 1) (by rfl) _ _ _ (fun X hX => HPV.out.below hX) Try.underlying28 (by rfl) info_Val
    try simp only [Act.put, List.setIfInBounds_toArray, List.set_cons_zero, List.set_cons_succ]
    refine wpAnyH_take (i := 1) (oi := ?o1x1) (v := ?v1x1) ?hi1x1 (by kernel_rfl) (by kernel_rfl) (by kernel_rfl) ?hQ1x1 ?hy1x1 (by assumption) ?rest1x1
    case hi1x1 => (simp only [List.getElem?_toArray, List.getElem?_cons_succ, List.getElem?_cons_zero]; rfl)
    case hQ1x1 => exact fun _ _ _ h => h
    case hy1x1 => (refine Or.inl ⟨by rfl, ?_⟩; intro W hSw; (try dsimp only at hSw); go_simp; (try with_reducible rfl))
    try simp only [Act.put, List.setIfInBounds_toArray, List.set_cons_zero, List.set_cons_succ]
    refine wpAnyH_take (i := 3) (oi := ?o3x2) (v := (.agg #[.bool f, .slice XX n e'])) ?hi3x2 (by kernel_rfl) (by kernel_rfl) (by kernel_rfl) ?hQ3x2 ?hy3x2 (by assumption) ?rest3x2
    case hi3x2 => (simp only [List.getElem?_toArray, List.getElem?_cons_succ, List.getElem?_cons_zero]; rfl)
    case hQ3x2 => exact fun _ _ _ h => h
    case hy3x2 => exact yields_load_row (by rfl) 24 (.tmp 7) (by rfl) w1.heap.size (by rfl) _ _ _ (fun X hX => HPX.out.below hX) Try.underlying24 (by rfl) info_SI
    try simp only [Act.put, List.setIfInBounds_toArray, List.set_cons_zero, List.set_cons_succ]
    refine wpAnyH_take (i := 4) (oi := ?o4x3) (v := ?v4x3) ?hi4x3 (by kernel_rfl) (by kernel_rfl) (by kernel_rfl) ?hQ4x3 ?hy4x3 (by assumption) ?rest4x3
    case hi4x3 => (simp only [List.getElem?_toArray, List.getElem?_cons_succ, List.getElem?_cons_zero]; rfl)
    case hQ4x3 => exact fun _ _ _ h => h
    case hy4x3 => (refine Or.inl ⟨by rfl, ?_⟩; intro W hSw; (try dsimp only at hSw); go_simp; (try with_reducible rfl))
    try simp only [Act.put, List.setIfInBounds_toArray, List.set_cons_zero, List.set_cons_succ]
    refine wpAnyH_take (i := 5) (oi := ?o5x4) (v := ?v5x4) ?hi5x4 (by kernel_rfl) (by kernel_rfl) (by kernel_rfl) ?hQ5x4 ?hy5x4 (by assumption) ?rest5x4
    case hi5x4 => (simp only [List.getElem?_toArray, List.getElem?_cons_succ, List.getElem?_cons_zero]; rfl)
    case hQ5x4 => exact fun _ _ _ h => h
    case hy5x4 => (refine Or.inl ⟨by rfl, ?_⟩; intro W hSw; (try dsimp only at hSw); go_simp; (try with_reducible rfl))
    try simp only [Act.put, List.setIfInBounds_toArray, List.set_cons_zero, List.set_cons_succ]
    refine wpAnyH_take (i := 6) (oi := ?o6x5) (v := ?v6x5) ?hi6x5 (by kernel_rfl) (by kernel_rfl) (by kernel_rfl) ?hQ6x5 ?hy6x5 (by assumption) ?rest6x5
    case hi6x5 => (simp only [List.getElem?_toArray, List.getElem?_cons_succ, List.getElem?_cons_zero]; rfl)
    case hQ6x5 => exact fun _ _ _ h => h
    case hy6x5 => (refine Or.inl ⟨by rfl, ?_⟩; intro W hSw; (try dsimp only at hSw); go_simp; (try with_reducible rfl))
    try simp only [Act.put, List.setIfInBounds_toArray, List.set_cons_zero, List.set_cons_succ]
    refine wpAnyH_ready (rs := [2]) (by kernel_rfl) (by simp) ?_
    refine (AllReadyH.cons rfl (fun K hK => ?_) AllReadyH.nil)
    go_simp
    (with_reducible refine Calls.mono (IntRsh_any _ z N hN HZC.out _ (HVa.out.below (by go_grown))) ?_)
    rintro e w3 ⟨v3, rfl, hs3, hk3⟩
    have hK3 : Kept W w3 := ⟨hk3.os, hk3.tape, hk3.output, hk3.size, hk3.block⟩
    have HS3 := Lib.hid hs3.toVI
    clear hs3 hk3
    refine hK.out _ _ ?_ (fun hHeld => ?_)
    · (go_grown)
    clear hK K
    try simp only [Act.put, List.setIfInBounds_toArray, List.set_cons_zero, List.set_cons_succ]
    refine wpAnyH_ready (rs := [7]) (by kernel_rfl) (by simp) ?_
    refine (AllReadyH.cons rfl (fun K hK => ?_) AllReadyH.nil)
    go_simp
    (with_reducible refine Calls.mono (HSR.out _ (HXa.out.below (by go_grown))) ?_)
    rintro e w4 ⟨v4, rfl, hs4, hk4⟩
    have hK4 : Kept W w4 := hK3.trans hk4
    have HS4 := Lib.hid hs4.toSI
    clear hs4
    refine hK.out _ _ ?_ (fun hHeld => ?_)
    · (go_grown)
    clear hK K
    try simp only [Act.put, List.setIfInBounds_toArray, List.set_cons_zero, List.set_cons_succ]
    refine wpAnyH_ready (rs := [8]) (by kernel_rfl) (by simp) ?_
    refine (AllReadyH.cons rfl (fun K hK => ?_) AllReadyH.nil)
    go_simp
    (with_reducible refine Calls.mono (is_any _ _ (z / ((2 ^ N : Nat) : Int)) _ (HS3.out.below (by go_grown)) HS4.out) ?_)
    rintro e w5 ⟨rfl, hk5⟩
    have hK5 : Kept W w5 := hK4.trans hk5
    refine hK.out _ _ ?_ (fun hHeld => ?_)
    · (go_grown)
    clear hK K
    try simp only [Act.put, List.setIfInBounds_toArray, List.set_cons_zero, List.set_cons_succ]
    refine wpAnyH_done (by kernel_rfl) ?_ _
    simp only [lastQ]
    go_wp2_with fail
    go_ret
    exact ⟨rfl, HKK.out.trans hK5⟩
  · have hl' : (2147483647 : Int) < (l.length : Int) := by omega
    go_enter Try.func6, Try.ntmps6
    go_wp2_with fail
    go_ret
    exact ⟨rfl, Below.refl _ _⟩
theorem u64_wf {a : Int} (h : (Lit.int .u64 a).wf = true) : 0 ≤ a ∧ a < 18446744073709551616 := by
  obtain ⟨h1, h2⟩ := (Lit.wf_int_iff .u64 a).1 h
  have e1 : IntKind.u64.min = 0 := by decide
  have e2 : IntKind.u64.max = 18446744073709551615 := by decide
  rw [e1] at h1
  rw [e2] at h2
  omega
end Go.Proofs.Ytikjdibngkcpkaa
