/- The reference's 64 bits. -/
import Derived.Test.YtdbdpllafknlcaaGreatSd
namespace Go.Proofs.YtdbdpllafknlcaaGreat
open Go.ChangeShapes Go.WideShapes Go.ChangeAt Go.RowKit
set_option linter.unusedVariables false
theorem absof_neg (z : Int) (N : Nat) (hz : z = -(N : Int)) (h : -9223372036854775808 ≤ z) (hn : z < 0) : z.natAbs % 18446744073709551616 = N ∧ (N : Int) ≤ 9223372036854775808 ∧ 0 < (N : Int) := by
  subst hz
  have : (-(N : Int)).natAbs = N := by rw [Int.natAbs_neg]; rfl
  rw [this]
  omega
theorem absof_pos (z : Int) (N : Nat) (hz : z = (N : Int)) (h : z ≤ 9223372036854775807) : z.natAbs % 18446744073709551616 = N ∧ (N : Int) ≤ 9223372036854775807 := by
  subst hz
  have : ((N : Int)).natAbs = N := rfl
  rw [this]
  omega
theorem wrap_u64_neg (N : Nat) (h0 : 0 < (N : Int)) (h : (N : Int) ≤ 9223372036854775808) : IntKind.u64.wrap (-(N : Int)) = 18446744073709551616 - (N : Int) := by
  rw [IntKind.wrap_u64]; omega
theorem wrap64_back (N : Nat) (h0 : 0 < (N : Int)) (h : (N : Int) ≤ 9223372036854775808) : wrap64 (18446744073709551616 - (N : Int)) = -(N : Int) := by
  unfold wrap64; omega
set_option maxRecDepth 100000 in
set_option maxHeartbeats 1000000 in
theorem sInt64_fits (b : Bool) (A : Option Addr) (n c : Nat) (z : Int) (h1 : -9223372036854775808 ≤ z) (h2 : z ≤ 9223372036854775807) (w : World) (hv : SI w (.agg #[.bool b, .slice A n c]) z) :
    Calls Tryz.prog 10 #[.agg #[.bool b, .slice A n c]] w fun e w' => e = .returned (.tuple #[.int .i64 z, .bool true]) ∧ Kept w w' := by
  have hk0 : Kept w (w.alloc (.cells #[.bool b, .slice A n c] 38)) := by go_grown
  have b1 := Blk.new w 38 #[.bool b, .slice A n c]
  have HV := Lib.hid (hv.below hk0)
  have hbn := hv.parts.1
  clear hv
  have hc1 : cmpI z (-9223372036854775808) = 0 ∨ cmpI z (-9223372036854775808) = 1 := by unfold cmpI; split <;> (try split) <;> omega
  have hc2 : cmpI z 9223372036854775807 = 0 ∨ cmpI z 9223372036854775807 = -1 := by unfold cmpI; split <;> (try split) <;> omega
  generalize hC1 : cmpI z (-9223372036854775808) = C1 at *
  generalize hC2 : cmpI z 9223372036854775807 = C2 at *
  have HC1 := Lib.hid hC1
  have HC2 := Lib.hid hC2
  have HR : Hid (-9223372036854775808 ≤ z ∧ z ≤ 9223372036854775807) := Lib.hid ⟨h1, h2⟩
  have HBN := Lib.hid hbn
  clear hC1 hC2 h1 h2 hbn
  rcases hc1 with rfl | rfl <;> rcases hc2 with rfl | rfl
  all_goals
    go_enter Tryz.func10, Tryz.ntmps10
    go_wp2_with fail
    generalize (w.alloc (.cells #[.bool b, .slice A n c] 38)) = W at *
    have c1 : W.cell? ⟨w.heap.size, 0, none⟩ = some (.bool b) := b1.cell 0
    have c2 : W.cell? ⟨w.heap.size, 1, none⟩ = some (.slice A n c) := b1.cell 1
    have l1 := b1.lt
    have KEEP : Hid (∀ X : World, Kept W X → X.cell? ⟨w.heap.size, 0, none⟩ = some (.bool b) ∧ X.cell? ⟨w.heap.size, 1, none⟩ = some (.slice A n c)) := Lib.hid fun X h => ⟨(h.cell l1).trans c1, (h.cell l1).trans c2⟩
    clear b1
    go_region_held3 (fun X : World => X.cell? ⟨w.heap.size, 0, none⟩ = some (.bool b) ∧ X.cell? ⟨w.heap.size, 1, none⟩ = some (.slice A n c))
      (first | exact KEEP.out _ (by go_grown))
      (first
        | (go_at_call 12
           (with_reducible refine Calls.mono (Small_any (-9223372036854775808) (by omega) (by omega) _) ?_)
           rintro e w3 ⟨v3, rfl, hv3, hk3'⟩
           have hk3 : Kept W w3 := Below.trans (by go_grown) (hk3'.mono (by go_size))
           have hz3 := hk3.size
           have HV3 := Lib.hid hv3.toSI
           obtain ⟨b3, A3, n3, k3, rfl⟩ := hv3.two
           clear hk3' hv3)
        | (go_at_call 18
           (with_reducible refine Calls.mono (sCmp_any b A n c z b3 A3 n3 k3 (-9223372036854775808) _ ?_ ?_) ?_)
           · exact HV.out.below (by go_grown)
           · exact HV3.out.below (by go_grown)
           rw [HC1.out]
           rintro e w4 ⟨rfl, hk4'⟩
           have hk4 : Kept W w4 := Below.trans (by go_grown) (hk4'.mono (by go_size))
           have hz4 := hk4.size
           clear hk4')
        | (go_at_call 12
           (with_reducible refine Calls.mono (Small_any 9223372036854775807 (by omega) (by omega) _) ?_)
           rintro e w5 ⟨v5, rfl, hv5, hk5'⟩
           have hk5 : Kept W w5 := Below.trans (by go_grown) (hk5'.mono (by go_size))
           have hz5 := hk5.size
           have HV5 := Lib.hid hv5.toSI
           obtain ⟨b5, A5, n5, k5, rfl⟩ := hv5.two
           clear hk5' hv5)
        | (go_at_call 18
           (with_reducible refine Calls.mono (sCmp_any b A n c z b5 A5 n5 k5 9223372036854775807 _ ?_ ?_) ?_)
           · exact HV.out.below (by go_grown)
           · exact HV5.out.below (by go_grown)
           rw [HC2.out]
           rintro e w6 ⟨rfl, hk6'⟩
           have hk6 : Kept W w6 := Below.trans (by go_grown) (hk6'.mono (by go_size))
           have hz6 := hk6.size
           clear hk6'))
    have hkk : Kept w w6 := Below.trans hk0 (hk6.mono hk0.size)
    have HV6 := Lib.hid (HV.out.below hk6)
    obtain ⟨d1, d2⟩ := KEEP.out _ hk6
    clear c1 c2
    go_wp2_with fail
    refine (low_any b A n c z _ HV6.out).mono ?_
    rintro e w7 ⟨rfl, hk7⟩
    have d3 := (hk7.cell (p := ⟨w.heap.size, 0, none⟩) (Nat.lt_of_lt_of_le l1 hk6.size)).trans d1
    have hkk7 : Kept w w7 := hkk.trans hk7
    clear d1 d2 hk7
    have hrr := HR.out
    by_cases hn : z < 0
    · have hbt : b = true := by rw [HBN.out]; exact decide_eq_true hn
      subst hbt
      obtain ⟨N, hz⟩ : ∃ N : Nat, z = -(N : Int) := ⟨z.natAbs, by omega⟩
      obtain ⟨hN, q3, q4⟩ := absof_neg z N hz hrr.1 hn
      rw [hN]
      have q1 := wrap_u64_neg N q4 q3
      have Q2 := Lib.hid (wrap64_back N q4 q3)
      have HZ := Lib.hid hz
      clear hz hn hrr hN
      go_wp2_with fail
      go_ret2
      rw [HZ.out, ← Q2.out]
      exact ⟨rfl, hkk7⟩
    · have hbt : b = false := by rw [HBN.out]; exact decide_eq_false hn
      subst hbt
      obtain ⟨N, hz⟩ : ∃ N : Nat, z = (N : Int) := ⟨z.natAbs, by omega⟩
      obtain ⟨hN, q3⟩ := absof_pos z N hz hrr.2
      rw [hN]
      have HZ := Lib.hid hz
      clear hz hn hrr hN
      go_wp2_with fail
      go_ret2
      rw [HZ.out]
      exact ⟨rfl, hkk7⟩
set_option maxRecDepth 100000 in
set_option maxHeartbeats 1000000 in
theorem sInt64_above (b : Bool) (A : Option Addr) (n c : Nat) (z : Int) (h1 : 9223372036854775807 < z) (w : World) (hv : SI w (.agg #[.bool b, .slice A n c]) z) :
    Calls Tryz.prog 10 #[.agg #[.bool b, .slice A n c]] w fun e w' => e = .returned (.tuple #[.int .i64 0, .bool false]) ∧ Kept w w' := by
  have hk0 : Kept w (w.alloc (.cells #[.bool b, .slice A n c] 38)) := by go_grown
  have b1 := Blk.new w 38 #[.bool b, .slice A n c]
  have HV := Lib.hid (hv.below hk0)
  have hbn := hv.parts.1
  clear hv
  have HC1 : Hid (cmpI z (-9223372036854775808) = 1) := Lib.hid (by unfold cmpI; rw [if_neg (by omega), if_neg (by omega)])
  have HC2 : Hid (cmpI z 9223372036854775807 = 1) := Lib.hid (by unfold cmpI; rw [if_neg (by omega), if_neg (by omega)])
  clear h1 hbn
  go_enter Tryz.func10, Tryz.ntmps10
  go_wp2_with fail
  generalize (w.alloc (.cells #[.bool b, .slice A n c] 38)) = W at *
  have c1 : W.cell? ⟨w.heap.size, 0, none⟩ = some (.bool b) := b1.cell 0
  have c2 : W.cell? ⟨w.heap.size, 1, none⟩ = some (.slice A n c) := b1.cell 1
  have l1 := b1.lt
  have KEEP : Hid (∀ X : World, Kept W X → X.cell? ⟨w.heap.size, 0, none⟩ = some (.bool b) ∧ X.cell? ⟨w.heap.size, 1, none⟩ = some (.slice A n c)) := Lib.hid fun X h => ⟨(h.cell l1).trans c1, (h.cell l1).trans c2⟩
  clear b1
  go_region_held3 (fun X : World => X.cell? ⟨w.heap.size, 0, none⟩ = some (.bool b) ∧ X.cell? ⟨w.heap.size, 1, none⟩ = some (.slice A n c))
    (first | exact KEEP.out _ (by go_grown))
    (first
      | (go_at_call 12
         (with_reducible refine Calls.mono (Small_any (-9223372036854775808) (by omega) (by omega) _) ?_)
         rintro e w3 ⟨v3, rfl, hv3, hk3'⟩
         have hk3 : Kept W w3 := Below.trans (by go_grown) (hk3'.mono (by go_size))
         have hz3 := hk3.size
         have HV3 := Lib.hid hv3.toSI
         obtain ⟨b3, A3, n3, k3, rfl⟩ := hv3.two
         clear hk3' hv3)
      | (go_at_call 18
         (with_reducible refine Calls.mono (sCmp_any b A n c z b3 A3 n3 k3 (-9223372036854775808) _ ?_ ?_) ?_)
         · exact HV.out.below (by go_grown)
         · exact HV3.out.below (by go_grown)
         rw [HC1.out]
         rintro e w4 ⟨rfl, hk4'⟩
         have hk4 : Kept W w4 := Below.trans (by go_grown) (hk4'.mono (by go_size))
         have hz4 := hk4.size
         clear hk4')
      | (go_at_call 12
         (with_reducible refine Calls.mono (Small_any 9223372036854775807 (by omega) (by omega) _) ?_)
         rintro e w5 ⟨v5, rfl, hv5, hk5'⟩
         have hk5 : Kept W w5 := Below.trans (by go_grown) (hk5'.mono (by go_size))
         have hz5 := hk5.size
         have HV5 := Lib.hid hv5.toSI
         obtain ⟨b5, A5, n5, k5, rfl⟩ := hv5.two
         clear hk5' hv5)
      | (go_at_call 18
         (with_reducible refine Calls.mono (sCmp_any b A n c z b5 A5 n5 k5 9223372036854775807 _ ?_ ?_) ?_)
         · exact HV.out.below (by go_grown)
         · exact HV5.out.below (by go_grown)
         rw [HC2.out]
         rintro e w6 ⟨rfl, hk6'⟩
         have hk6 : Kept W w6 := Below.trans (by go_grown) (hk6'.mono (by go_size))
         have hz6 := hk6.size
         clear hk6'))
  have hkk : Kept w w6 := Below.trans hk0 (hk6.mono hk0.size)
  go_wp2_with fail
  go_ret2
  exact ⟨rfl, hkk⟩
set_option maxRecDepth 100000 in
set_option maxHeartbeats 1000000 in
theorem sInt64_below (b : Bool) (A : Option Addr) (n c : Nat) (z : Int) (h1 : z < -9223372036854775808) (w : World) (hv : SI w (.agg #[.bool b, .slice A n c]) z) :
    Calls Tryz.prog 10 #[.agg #[.bool b, .slice A n c]] w fun e w' => e = .returned (.tuple #[.int .i64 0, .bool false]) ∧ Kept w w' := by
  have hk0 : Kept w (w.alloc (.cells #[.bool b, .slice A n c] 38)) := by go_grown
  have b1 := Blk.new w 38 #[.bool b, .slice A n c]
  have HV := Lib.hid (hv.below hk0)
  have hbn := hv.parts.1
  clear hv
  have HC1 : Hid (cmpI z (-9223372036854775808) = -1) := Lib.hid (by unfold cmpI; rw [if_pos (by omega)])
  clear h1 hbn
  go_enter Tryz.func10, Tryz.ntmps10
  go_wp2_with fail
  generalize (w.alloc (.cells #[.bool b, .slice A n c] 38)) = W at *
  have c1 : W.cell? ⟨w.heap.size, 0, none⟩ = some (.bool b) := b1.cell 0
  have c2 : W.cell? ⟨w.heap.size, 1, none⟩ = some (.slice A n c) := b1.cell 1
  have l1 := b1.lt
  have KEEP : Hid (∀ X : World, Kept W X → X.cell? ⟨w.heap.size, 0, none⟩ = some (.bool b) ∧ X.cell? ⟨w.heap.size, 1, none⟩ = some (.slice A n c)) := Lib.hid fun X h => ⟨(h.cell l1).trans c1, (h.cell l1).trans c2⟩
  clear b1
  go_region_with (first
      | (go_at_call 12
         (with_reducible refine Calls.mono (Small_any (-9223372036854775808) (by omega) (by omega) _) ?_)
         rintro e w3 ⟨v3, rfl, hv3, hk3'⟩
         have hk3 : Kept W w3 := Below.trans (by go_grown) (hk3'.mono (by go_size))
         have hz3 := hk3.size
         have HV3 := Lib.hid hv3.toSI
         obtain ⟨b3, A3, n3, k3, rfl⟩ := hv3.two
         obtain ⟨d1, d2⟩ := KEEP.out _ hk3
         clear hk3' hv3)
      | (go_at_call 18
         (with_reducible refine Calls.mono (sCmp_any b A n c z b3 A3 n3 k3 (-9223372036854775808) _ ?_ ?_) ?_)
         · exact HV.out.below (by go_grown)
         · exact HV3.out.below (by go_grown)
         rw [HC1.out]
         rintro e w4 ⟨rfl, hk4'⟩
         have hk4 : Kept W w4 := Below.trans (by go_grown) (hk4'.mono (by go_size))
         obtain ⟨f1, f2⟩ := KEEP.out _ hk4
         clear hk4'))
  all_goals
    have hkk : Kept w w4 := Below.trans hk0 (hk4.mono hk0.size)
    go_wp2_with fail
    go_ret2
    exact ⟨rfl, hkk⟩
end Go.Proofs.YtdbdpllafknlcaaGreat
