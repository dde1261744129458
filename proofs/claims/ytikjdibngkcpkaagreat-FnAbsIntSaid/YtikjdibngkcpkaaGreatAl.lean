/- The law FnAbsInt at any world. -/
import Derived.Test.YtikjdibngkcpkaaGreatAb
import Derived.Deep.RegionHeld3
namespace Go.Proofs.YtikjdibngkcpkaaGreat
open Go.ChangeShapes Go.WideShapes Go.ChangeAt Go.RowKit
set_option linter.unusedVariables false
set_option maxRecDepth 100000 in
set_option maxHeartbeats 2000000 in
theorem FnAbsInt_any (b : Bool) (A : Option Addr) (c : Nat) (l : List Nat) (hd : ∀ d ∈ l, d < 256) (w : World) (hs : Sl w A c (by8 l)) :
    Calls Tryz.prog 3 #[.bool b, .slice A l.length c] w fun e w' => e = .returned (.bool true) ∧ Kept w w' := by
  have HS := Lib.hid hs
  have HD := Lib.hid hd
  clear hs hd
  by_cases hl : l.length ≤ 2147483647
  · have hl' : ¬ (2147483647 : Int) < (l.length : Int) := by omega
    go_enter Tryz.func3, Tryz.ntmps3
    go_wp2_with fail
    refine (whole2_any b A c l 400 hl (by omega) HD.out w HS.out).mono ?_
    have hzc := zof_cap b l 400 HD.out (by omega)
    generalize zof b l 400 = z at *
    rintro e w1 ⟨v1, v2, rfl, hv1, hv2, hk1⟩
    obtain ⟨A1, c1, l1, rfl, r1, r2, _⟩ := hv1
    obtain ⟨A2, c2, l2, rfl, q⟩ := hv2
    have HR : Hid (Sl w1 A1 c1 (by8 l1) ∧ BE l1 z.natAbs) := Lib.hid ⟨r1, r2⟩
    have HV : Hid (VI w1 (.agg #[.int .i64 2, .bool (decide (z < 0)), .slice A2 l2.length c2, .int .u64 0, .string ⟨#[]⟩, .slice none 0 0]) z) := Lib.hid ⟨A2, c2, l2, rfl, q.1, q.2.1⟩
    clear q r1 r2
    go_wp2_with fail
    have hk2 := (hk1.alloc hk1.size (.cells #[.bool (decide (z < 0)), .slice A1 l1.length c1] 24)).alloc (Nat.le_trans hk1.size (by simp)) (.cells #[.int .i64 2, .bool (decide (z < 0)), .slice A2 l2.length c2, .int .u64 0, .string ⟨#[]⟩, .slice none 0 0] 28)
    have kk : Kept w1 ((w1.alloc (.cells #[.bool (decide (z < 0)), .slice A1 l1.length c1] 24)).alloc (.cells #[.int .i64 2, .bool (decide (z < 0)), .slice A2 l2.length c2, .int .u64 0, .string ⟨#[]⟩, .slice none 0 0] 28)) := by go_grown
    have HV2 := Lib.hid (HV.out.below kk)
    have HR2 := Lib.hid (And.intro (HR.out.1.below kk) HR.out.2)
    have hx : Blk ((w1.alloc (.cells #[.bool (decide (z < 0)), .slice A1 l1.length c1] 24)).alloc (.cells #[.int .i64 2, .bool (decide (z < 0)), .slice A2 l2.length c2, .int .u64 0, .string ⟨#[]⟩, .slice none 0 0] 28)) w1.heap.size 24 #[.bool (decide (z < 0)), .slice A1 l1.length c1] :=
      (Blk.new w1 _ _).below ((Below.refl _ _).alloc (Nat.le_refl _) _)
    clear kk HV HR
    generalize ((w1.alloc (.cells #[.bool (decide (z < 0)), .slice A1 l1.length c1] 24)).alloc (.cells #[.int .i64 2, .bool (decide (z < 0)), .slice A2 l2.length c2, .int .u64 0, .string ⟨#[]⟩, .slice none 0 0] 28)) = W at *
    refine (AbsInt_any _ z hzc W HV2.out).mono ?_
    rintro e w3 ⟨v3, rfl, hv3, hk3⟩
    have hx3 := hx.below hk3
    have HX := Lib.hid hx3
    have HR3 := Lib.hid (And.intro (HR2.out.1.below hk3) HR2.out.2)
    have HK3 : Hid (Kept w w3) := Lib.hid (hk2.trans (hk3.mono hk2.size))
    have hdn : decide (((z.natAbs : Nat) : Int) < 0) = false := dec_nat _
    obtain ⟨A3, k3, l3, rfl, q1, q2, q3⟩ := hv3
    rw [hdn]
    have HV3 : Hid (VI w3 (.agg #[.int .i64 2, .bool false, .slice A3 l3.length k3, .int .u64 0, .string ⟨#[]⟩, .slice none 0 0]) z.natAbs) := Lib.hid ⟨A3, k3, l3, by rw [hdn], q1, q2⟩
    clear q1 q2 q3 hx hx3 HV2 HR2 hk3 hdn hk2 hk1
    go_wp2_with fail
    have kk : Kept w3 (w3.alloc (.cells #[.int .i64 2, .bool false, .slice A3 l3.length k3, .int .u64 0, .string ⟨#[]⟩, .slice none 0 0] 28)) := by go_grown
    have hp := Blk.new w3 28 #[.int .i64 2, .bool false, .slice A3 l3.length k3, .int .u64 0, .string ⟨#[]⟩, .slice none 0 0]
    have hx := HX.out.below kk
    have HR4 := Lib.hid (And.intro (HR3.out.1.below kk) HR3.out.2)
    have HV4 := Lib.hid (HV3.out.below kk)
    have HK4 : Hid (Kept w (w3.alloc (.cells #[.int .i64 2, .bool false, .slice A3 l3.length k3, .int .u64 0, .string ⟨#[]⟩, .slice none 0 0] 28))) := Lib.hid (HK3.out.trans kk)
    clear HR3 HV3 HX kk
    generalize (w3.alloc (.cells #[.int .i64 2, .bool false, .slice A3 l3.length k3, .int .u64 0, .string ⟨#[]⟩, .slice none 0 0] 28)) = V at *
    have t1 : V.cell? ⟨w1.heap.size, 1, none⟩ = some (.slice A1 l1.length c1) := hx.cell 1
    have u0 : V.cell? ⟨w3.heap.size, 0, none⟩ = some (.int .i64 2) := hp.cell 0
    have u1 : V.cell? ⟨w3.heap.size, 1, none⟩ = some (.bool false) := hp.cell 1
    have u2 : V.cell? ⟨w3.heap.size, 2, none⟩ = some (.slice A3 l3.length k3) := hp.cell 2
    have u3 : V.cell? ⟨w3.heap.size, 3, none⟩ = some (.int .u64 0) := hp.cell 3
    have u4 : V.cell? ⟨w3.heap.size, 4, none⟩ = some (.string ⟨#[]⟩) := hp.cell 4
    have u5 : V.cell? ⟨w3.heap.size, 5, none⟩ = some (.slice none 0 0) := hp.cell 5
    have l0 := hp.lt
    have l1' := hx.lt
    have KEEP : Hid (∀ X : World, Kept V X → X.cell? ⟨w1.heap.size, 1, none⟩ = some (.slice A1 l1.length c1)
        ∧ X.cell? ⟨w3.heap.size, 0, none⟩ = some (.int .i64 2) ∧ X.cell? ⟨w3.heap.size, 1, none⟩ = some (.bool false) ∧ X.cell? ⟨w3.heap.size, 2, none⟩ = some (.slice A3 l3.length k3)
        ∧ X.cell? ⟨w3.heap.size, 3, none⟩ = some (.int .u64 0) ∧ X.cell? ⟨w3.heap.size, 4, none⟩ = some (.string ⟨#[]⟩) ∧ X.cell? ⟨w3.heap.size, 5, none⟩ = some (.slice none 0 0)) := Lib.hid fun X h =>
      ⟨(h.cell l1').trans t1, (h.cell l0).trans u0, (h.cell l0).trans u1, (h.cell l0).trans u2, (h.cell l0).trans u3, (h.cell l0).trans u4, (h.cell l0).trans u5⟩
    clear hp hx
    go_wp2_with fail
    go_region_held3 (fun X : World => X.cell? ⟨w1.heap.size, 1, none⟩ = some (.slice A1 l1.length c1)
        ∧ X.cell? ⟨w3.heap.size, 0, none⟩ = some (.int .i64 2) ∧ X.cell? ⟨w3.heap.size, 1, none⟩ = some (.bool false) ∧ X.cell? ⟨w3.heap.size, 2, none⟩ = some (.slice A3 l3.length k3)
        ∧ X.cell? ⟨w3.heap.size, 3, none⟩ = some (.int .u64 0) ∧ X.cell? ⟨w3.heap.size, 4, none⟩ = some (.string ⟨#[]⟩) ∧ X.cell? ⟨w3.heap.size, 5, none⟩ = some (.slice none 0 0))
      (first
        | exact KEEP.out _ hk6
        | exact KEEP.out _ hk5
        | exact KEEP.out _ (by go_grown))
      (first
        | (go_at_call 7
           refine Calls.mono (Of_any false A1 c1 l1 (by have := HR4.out.2.len hzc; omega) HR4.out.2.lt _ (HR4.out.1.below (by go_grown))) ?_
           rintro e w5 ⟨v5, rfl, hv5, hk5'⟩
           have hk5 : Kept V w5 := Below.trans (by go_grown) hk5'
           have HI := Lib.hid hv5.toSI
           obtain ⟨b5, A5, n5, c5, rfl⟩ := hv5.two
           clear hv5 hk5')
        | (go_at_call 6
           refine Calls.mono (is_any _ _ (z.natAbs : Int) _ (HV4.out.below hk5) (by have h := HI.out; rw [HR4.out.2.2] at h; exact h)) ?_
           rintro e w6 ⟨rfl, hk6'⟩
           have hk6 : Kept V w6 := Below.trans hk5 (hk6'.mono hk5.size)
           clear hk6'))
    go_wp2_with fail
    go_ret
    exact ⟨rfl, HK4.out.trans hk6⟩
  · have hl' : (2147483647 : Int) < (l.length : Int) := by omega
    go_enter Tryz.func3, Tryz.ntmps3
    go_wp2_with fail
    go_ret
    exact ⟨rfl, Below.refl _ _⟩
end Go.Proofs.YtikjdibngkcpkaaGreat
