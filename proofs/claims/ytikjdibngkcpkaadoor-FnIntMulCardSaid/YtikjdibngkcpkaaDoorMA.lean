/- The law of the product of two integers, walked. -/
import Derived.Test.YtikjdibngkcpkaaDoorM9
import Derived.Test.YtikjdibngkcpkaaDoorLa
namespace Go.Proofs.YtikjdibngkcpkaaDoor
open Go.ChangeShapes Go.WideShapes Go.ChangeAt Go.RowKit
set_option linter.unusedVariables false
theorem zof_lt (b : Bool) (l : List Nat) (most : Nat) (hd : ∀ d ∈ l, d < 256) : (zof b l most).natAbs < 256 ^ most := by
  have h1 := Num.le_lt 256 (by omega) (l.take (min l.length most)).reverse (fun d h => hd d (List.mem_of_mem_take (List.mem_reverse.1 h)))
  have h0 : (l.take (min l.length most)).reverse.length ≤ most := by
    rw [List.length_reverse, List.length_take]
    omega
  have h2 : 256 ^ (l.take (min l.length most)).reverse.length ≤ 256 ^ most := Nat.pow_le_pow_right (by omega) h0
  have h3 : (zof b l most).natAbs = Num.le 256 (l.take (min l.length most)).reverse := by unfold zof sgn; split <;> simp
  rw [h3]
  omega
theorem pw_lt (b k m n x : Nat) (hb : 0 < b) (h : m ≤ k * n) (hx : x < b ^ m) : x < (b ^ k) ^ n := by
  rw [← Nat.pow_mul]
  exact Nat.lt_of_lt_of_le hx (Nat.pow_le_pow_right hb h)
theorem pw_mul (b m n k x y : Nat) (hb : 0 < b) (h : m + n ≤ k) (hx : x < b ^ m) (hy : y < b ^ n) : x * y < b ^ k := by
  have h1 : x * y < b ^ m * b ^ n := Nat.mul_lt_mul'' hx hy
  rw [← Nat.pow_add] at h1
  exact Nat.lt_of_lt_of_le h1 (Nat.pow_le_pow_right hb h)
theorem lt39 {z : Int} (h : z.natAbs < 256 ^ 200) : z.natAbs < Num.B64 ^ 39 := by
  have hB : 256 ^ 8 = Num.B64 := by decide
  have h1 := pw_lt 256 8 200 39 _ (by decide) (by decide) h
  rw [hB] at h1
  exact h1
theorem mul_cap {x y : Int} (hx : x.natAbs < 256 ^ 200) (hy : y.natAbs < 256 ^ 200) : (x * y).natAbs < Num.Cap := by
  rw [Int.natAbs_mul]
  exact pw_mul 256 200 200 Num.capK _ _ (by decide) (by unfold Num.capK; decide) hx hy
set_option maxRecDepth 100000 in
set_option maxHeartbeats 4000000 in
theorem FnIntMul_any (ba : Bool) (Aa : Option Addr) (ca : Nat) (la : List Nat) (hda : ∀ d ∈ la, d < 256) (bb : Bool) (Ab : Option Addr) (cb : Nat) (lb : List Nat) (hdb : ∀ d ∈ lb, d < 256) (w : World) (hsa : Sl w Aa ca (by8 la)) (hsb : Sl w Ab cb (by8 lb)) (hgl : w.cell? ⟨2, 0, none⟩ = some (.int .i64 40)) :
    Calls Tryd.prog 3 #[.bool ba, .slice Aa la.length ca, .bool bb, .slice Ab lb.length cb] w fun e w' => e = .returned (.bool true) ∧ Kept w w' := by
  have HSA := Lib.hid hsa
  have HGL := Lib.hid hgl
  clear hgl
  have HSB := Lib.hid hsb
  have HDA := Lib.hid hda
  have HDB := Lib.hid hdb
  clear hsa hsb hda hdb
  by_cases hl : la.length ≤ 2147483647
  · by_cases hm : lb.length ≤ 2147483647
    · have hl' : ¬ (2147483647 : Int) < (la.length : Int) := by omega
      have hm' : ¬ (2147483647 : Int) < (lb.length : Int) := by omega
      go_enter Tryd.func3, Tryd.ntmps3
      go_wp2_with fail
      refine (whole2_any ba Aa ca la 200 hl (by omega) HDA.out w HSA.out).mono ?_
      have hzc1 := zof_cap ba la 200 HDA.out (by omega)
      have HZL1 := Lib.hid (zof_lt ba la 200 HDA.out)
      generalize zof ba la 200 = z1 at *
      rintro e w1 ⟨v1, v2, rfl, hv1, hv2, hk1⟩
      have HX1 := Lib.hid hv1.toSI
      obtain ⟨f1, X1, n1, e1, rfl⟩ := hv1.two
      obtain ⟨P1, d1, m1, rfl, q⟩ := hv2
      have HV1 : Hid (VI w1 (.agg #[.int .i64 2, .bool (decide (z1 < 0)), .slice P1 m1.length d1, .int .u64 0, .string ⟨#[]⟩, .slice none 0 0]) z1) := Lib.hid ⟨P1, d1, m1, rfl, q.1, q.2.1⟩
      clear q hv1
      go_wp2_with fail
      have kk1 : Kept w1 ((w1.alloc (.cells #[.bool f1, .slice X1 n1 e1] 24)).alloc (.cells #[.int .i64 2, .bool (decide (z1 < 0)), .slice P1 m1.length d1, .int .u64 0, .string ⟨#[]⟩, .slice none 0 0] 28)) := by go_grown
      have hpx1 : Blk ((w1.alloc (.cells #[.bool f1, .slice X1 n1 e1] 24)).alloc (.cells #[.int .i64 2, .bool (decide (z1 < 0)), .slice P1 m1.length d1, .int .u64 0, .string ⟨#[]⟩, .slice none 0 0] 28)) w1.heap.size 24 #[.bool f1, .slice X1 n1 e1] := (Blk.new w1 _ _).below ((Below.refl _ _).alloc (Nat.le_refl _) _)
      have hpv1 : Blk ((w1.alloc (.cells #[.bool f1, .slice X1 n1 e1] 24)).alloc (.cells #[.int .i64 2, .bool (decide (z1 < 0)), .slice P1 m1.length d1, .int .u64 0, .string ⟨#[]⟩, .slice none 0 0] 28)) (w1.heap.size + 1) 28 #[.int .i64 2, .bool (decide (z1 < 0)), .slice P1 m1.length d1, .int .u64 0, .string ⟨#[]⟩, .slice none 0 0] := by
        have := Blk.new (w1.alloc (.cells #[.bool f1, .slice X1 n1 e1] 24)) 28 #[.int .i64 2, .bool (decide (z1 < 0)), .slice P1 m1.length d1, .int .u64 0, .string ⟨#[]⟩, .slice none 0 0]
        rwa [World.size_alloc] at this
      generalize ((w1.alloc (.cells #[.bool f1, .slice X1 n1 e1] 24)).alloc (.cells #[.int .i64 2, .bool (decide (z1 < 0)), .slice P1 m1.length d1, .int .u64 0, .string ⟨#[]⟩, .slice none 0 0] 28)) = W1 at *
      have HKW1 := Lib.hid kk1
      have HPX1 := Lib.hid hpx1
      have HPV1 := Lib.hid hpv1
      have HKK1 : Hid (Kept w W1) := Lib.hid ((hk1.trans kk1))
      have HZC1 := Lib.hid hzc1
      clear hk1 kk1 hpx1 hpv1 hzc1
      refine (whole2_any bb Ab cb lb 200 hm (by omega) HDB.out W1 (HSB.out.below HKK1.out)).mono ?_
      have hzc2 := zof_cap bb lb 200 HDB.out (by omega)
      have HZL2 := Lib.hid (zof_lt bb lb 200 HDB.out)
      generalize zof bb lb 200 = z2 at *
      rintro e w2 ⟨v1, v2, rfl, hv1, hv2, hk2⟩
      have HX2 := Lib.hid hv1.toSI
      obtain ⟨f2, X2, n2, e2, rfl⟩ := hv1.two
      obtain ⟨P2, d2, m2, rfl, q⟩ := hv2
      have HV2 : Hid (VI w2 (.agg #[.int .i64 2, .bool (decide (z2 < 0)), .slice P2 m2.length d2, .int .u64 0, .string ⟨#[]⟩, .slice none 0 0]) z2) := Lib.hid ⟨P2, d2, m2, rfl, q.1, q.2.1⟩
      clear q hv1
      go_wp2_with fail
      have kk2 : Kept w2 ((w2.alloc (.cells #[.bool f2, .slice X2 n2 e2] 24)).alloc (.cells #[.int .i64 2, .bool (decide (z2 < 0)), .slice P2 m2.length d2, .int .u64 0, .string ⟨#[]⟩, .slice none 0 0] 28)) := by go_grown
      have hpx2 : Blk ((w2.alloc (.cells #[.bool f2, .slice X2 n2 e2] 24)).alloc (.cells #[.int .i64 2, .bool (decide (z2 < 0)), .slice P2 m2.length d2, .int .u64 0, .string ⟨#[]⟩, .slice none 0 0] 28)) w2.heap.size 24 #[.bool f2, .slice X2 n2 e2] := (Blk.new w2 _ _).below ((Below.refl _ _).alloc (Nat.le_refl _) _)
      have hpv2 : Blk ((w2.alloc (.cells #[.bool f2, .slice X2 n2 e2] 24)).alloc (.cells #[.int .i64 2, .bool (decide (z2 < 0)), .slice P2 m2.length d2, .int .u64 0, .string ⟨#[]⟩, .slice none 0 0] 28)) (w2.heap.size + 1) 28 #[.int .i64 2, .bool (decide (z2 < 0)), .slice P2 m2.length d2, .int .u64 0, .string ⟨#[]⟩, .slice none 0 0] := by
        have := Blk.new (w2.alloc (.cells #[.bool f2, .slice X2 n2 e2] 24)) 28 #[.int .i64 2, .bool (decide (z2 < 0)), .slice P2 m2.length d2, .int .u64 0, .string ⟨#[]⟩, .slice none 0 0]
        rwa [World.size_alloc] at this
      generalize ((w2.alloc (.cells #[.bool f2, .slice X2 n2 e2] 24)).alloc (.cells #[.int .i64 2, .bool (decide (z2 < 0)), .slice P2 m2.length d2, .int .u64 0, .string ⟨#[]⟩, .slice none 0 0] 28)) = W2 at *
      have HKW2 := Lib.hid kk2
      have HPX2 := Lib.hid hpx2
      have HPV2 := Lib.hid hpv2
      have HKK2 : Hid (Kept w W2) := Lib.hid (HKK1.out.trans (hk2.trans kk2))
      have HZC2 := Lib.hid hzc2
      have HK12 : Hid (Kept W1 w2) := Lib.hid hk2
      clear hk2 kk2 hpx2 hpv2 hzc2
      have HW12 : Hid (Kept W1 W2) := Lib.hid (HK12.out.trans HKW2.out)
      have HVa := Lib.hid ((HV1.out.below HKW1.out).below HW12.out)
      have HXa := Lib.hid ((HX1.out.below HKW1.out).below HW12.out)
      have HVb := Lib.hid (HV2.out.below HKW2.out)
      have HXb := Lib.hid (HX2.out.below HKW2.out)
      have HPXa := Lib.hid (HPX1.out.below HW12.out)
      have HPVa := Lib.hid (HPV1.out.below HW12.out)
      refine wp_region_lastL _ _ _ (by simp only [List.dropLast]; rfl) (by simp only [List.getLast?_cons_cons, List.getLast?_singleton]; rfl) (fun X : World => Kept W2 X) (by kernel_rfl) (by kernel_rfl) (by go_grown) (fun hHeld => ?_)
      refine wpAnyH_take (i := 0) (oi := ?o0x0) (v := (.agg #[.int .i64 2, .bool (decide (z1 < 0)), .slice P1 m1.length d1, .int .u64 0, .string ⟨#[]⟩, .slice none 0 0])) ?hi0x0 (by kernel_rfl) (by kernel_rfl) (by kernel_rfl) ?hQ0x0 ?hy0x0 (by assumption) ?rest0x0
      case hi0x0 => (simp only [List.getElem?_toArray, List.getElem?_cons_zero]; rfl)
      case hQ0x0 => exact fun _ _ _ h => h
      case hy0x0 => exact yields_load_row (by rfl) 28 (.tmp 10) (by rfl) (w1.heap.size + 1) (by rfl) _ _ _ (fun X hX => HPVa.out.below hX) Tryd.underlying28 (by rfl) info_Val
      try simp only [Act.put, List.setIfInBounds_toArray, List.set_cons_zero, List.set_cons_succ]
      refine wpAnyH_take (i := 1) (oi := ?o1x1) (v := (.agg #[.int .i64 2, .bool (decide (z2 < 0)), .slice P2 m2.length d2, .int .u64 0, .string ⟨#[]⟩, .slice none 0 0])) ?hi1x1 (by kernel_rfl) (by kernel_rfl) (by kernel_rfl) ?hQ1x1 ?hy1x1 (by assumption) ?rest1x1
      case hi1x1 => (simp only [List.getElem?_toArray, List.getElem?_cons_succ, List.getElem?_cons_zero]; rfl)
      case hQ1x1 => exact fun _ _ _ h => h
      case hy1x1 => exact yields_load_row (by rfl) 28 (.tmp 12) (by rfl) (w2.heap.size + 1) (by rfl) _ _ _ (fun X hX => HPV2.out.below hX) Tryd.underlying28 (by rfl) info_Val
      try simp only [Act.put, List.setIfInBounds_toArray, List.set_cons_zero, List.set_cons_succ]
      refine wpAnyH_take (i := 3) (oi := ?o3x2) (v := (.agg #[.bool f1, .slice X1 n1 e1])) ?hi3x2 (by kernel_rfl) (by kernel_rfl) (by kernel_rfl) ?hQ3x2 ?hy3x2 (by assumption) ?rest3x2
      case hi3x2 => (simp only [List.getElem?_toArray, List.getElem?_cons_succ, List.getElem?_cons_zero]; rfl)
      case hQ3x2 => exact fun _ _ _ h => h
      case hy3x2 => exact yields_load_row (by rfl) 24 (.tmp 9) (by rfl) w1.heap.size (by rfl) _ _ _ (fun X hX => HPXa.out.below hX) Tryd.underlying24 (by rfl) info_SI
      try simp only [Act.put, List.setIfInBounds_toArray, List.set_cons_zero, List.set_cons_succ]
      refine wpAnyH_take (i := 4) (oi := ?o4x3) (v := (.agg #[.bool f2, .slice X2 n2 e2])) ?hi4x3 (by kernel_rfl) (by kernel_rfl) (by kernel_rfl) ?hQ4x3 ?hy4x3 (by assumption) ?rest4x3
      case hi4x3 => (simp only [List.getElem?_toArray, List.getElem?_cons_succ, List.getElem?_cons_zero]; rfl)
      case hQ4x3 => exact fun _ _ _ h => h
      case hy4x3 => exact yields_load_row (by rfl) 24 (.tmp 11) (by rfl) w2.heap.size (by rfl) _ _ _ (fun X hX => HPX2.out.below hX) Tryd.underlying24 (by rfl) info_SI
      try simp only [Act.put, List.setIfInBounds_toArray, List.set_cons_zero, List.set_cons_succ]
      refine wpAnyH_ready (rs := [2]) (by kernel_rfl) (by simp) ?_
      refine (AllReadyH.cons rfl (fun K hK => ?_) AllReadyH.nil)
      go_simp
      (with_reducible refine Calls.mono (IntMul_any _ _ z1 z2 HZC1.out HZC2.out (lt39 HZL1.out) (lt39 HZL2.out) (mul_cap HZL1.out HZL2.out) _ ?gl (HVa.out.below (by go_grown)) (HVb.out.below (by go_grown))) ?_)
      case gl => exact ((HKK2.out.trans (by go_grown)).cell (p := ⟨2, 0, none⟩) (block_lt_of_cell HGL.out)).trans HGL.out
      rintro e w3 ⟨v3, rfl, hs3, hk3⟩
      have hK3 : Kept W2 w3 := ⟨hk3.os, hk3.tape, hk3.output, hk3.size, hk3.block⟩
      have HS3 := Lib.hid hs3.toVI
      clear hs3 hk3
      refine hK.out _ _ ?_ (fun hHeld => ?_)
      · (go_grown)
      clear hK K
      try simp only [Act.put, List.setIfInBounds_toArray, List.set_cons_zero, List.set_cons_succ]
      refine wpAnyH_ready (rs := [5]) (by kernel_rfl) (by simp) ?_
      refine (AllReadyH.cons rfl (fun K hK => ?_) AllReadyH.nil)
      go_simp
      (with_reducible refine Calls.mono (sMul_any _ _ _ _ z1 _ _ _ _ z2 HZC1.out HZC2.out _ (HXa.out.below (by go_grown)) (HXb.out.below (by go_grown))) ?_)
      rintro e w4 ⟨v4, rfl, hs4, hk4⟩
      have hK4 : Kept W2 w4 := hK3.trans hk4
      have HS4 := Lib.hid hs4.toSI
      clear hs4
      refine hK.out _ _ ?_ (fun hHeld => ?_)
      · (go_grown)
      clear hK K
      try simp only [Act.put, List.setIfInBounds_toArray, List.set_cons_zero, List.set_cons_succ]
      refine wpAnyH_ready (rs := [6]) (by kernel_rfl) (by simp) ?_
      refine (AllReadyH.cons rfl (fun K hK => ?_) AllReadyH.nil)
      go_simp
      (with_reducible refine Calls.mono (is_any _ _ (z1 * z2) _ (HS3.out.below (by go_grown)) HS4.out) ?_)
      rintro e w5 ⟨rfl, hk5⟩
      have hK5 : Kept W2 w5 := hK4.trans hk5
      refine hK.out _ _ ?_ (fun hHeld => ?_)
      · (go_grown)
      clear hK K
      try simp only [Act.put, List.setIfInBounds_toArray, List.set_cons_zero, List.set_cons_succ]
      refine wpAnyH_done (by kernel_rfl) ?_ _
      simp only [lastQ]
      go_wp2_with fail
      go_ret
      exact ⟨rfl, HKK2.out.trans hK5⟩
    · have hl' : ¬ (2147483647 : Int) < (la.length : Int) := by omega
      have hm' : (2147483647 : Int) < (lb.length : Int) := by omega
      go_enter Tryd.func3, Tryd.ntmps3
      go_wp2_with fail
      go_ret
      exact ⟨rfl, Below.refl _ _⟩
  · have hl' : (2147483647 : Int) < (la.length : Int) := by omega
    go_enter Tryd.func3, Tryd.ntmps3
    go_wp2_with fail
    go_ret
    exact ⟨rfl, Below.refl _ _⟩
end Go.Proofs.YtikjdibngkcpkaaDoor
