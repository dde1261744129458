/- The law of the truth of a string, an integer, a float walked. -/
import Derived.Laws.StructEq
import Derived.Lib.SlicesS
import Derived.Test.YtikjdibngkcpkaaTr
namespace Go.Proofs.Ytikjdibngkcpkaa
open Go.ChangeShapes Go.WideShapes Go.ChangeAt Go.RowKit
set_option linter.unusedVariables false
theorem empty_cmp (s : ByteArray) : decide (0 < s.size) = !s.toList.isEmpty := by
  rw [ByteArray.toList_eq]
  obtain ⟨⟨d⟩⟩ := s
  cases d with
  | nil => rfl
  | cons a t => simp [ByteArray.size]
theorem StringTruth_emp (s : ByteArray) (w : World) :
    Calls Try.prog 11 #[.string s] w fun e w' => e = .returned (.bool (!s.toList.isEmpty)) ∧ w = w' := by
  rw [← empty_cmp]
  exact StringTruth_any s w
set_option maxRecDepth 100000 in
set_option maxHeartbeats 2000000 in
theorem FnScalarTruth_any (s : ByteArray) (b : Bool) (A : Option Addr) (c : Nat) (l : List Nat) (f : Int) (hd : ∀ d ∈ l, d < 256) (w : World) (hs : Sl w A c (by8 l)) :
    Calls Try.prog 4 #[.string s, .bool b, .slice A l.length c, .int .u64 f] w fun e w' => e = .returned (.bool true) ∧ Kept w w' := by
  have HS := Lib.hid hs
  have HD := Lib.hid hd
  clear hs hd
  by_cases hq : (s.size : Int) ≤ 2147483647
  · have hq' : ¬ (2147483647 : Int) < (s.size : Int) := by omega
    by_cases hl : l.length ≤ 2147483647
    · have hl' : ¬ (2147483647 : Int) < (l.length : Int) := by omega
      go_enter Try.func4, Try.ntmps4
      go_wp2_with fail
      refine (whole2_any b A c l 400 hl (by omega) HD.out w HS.out).mono ?_
      have hzc := zof_cap b l 400 HD.out (by omega)
      generalize zof b l 400 = z at *
      rintro e w1 ⟨v1, v2, rfl, hv1, hv2, hk1⟩
      have HX := Lib.hid hv1.toSI
      obtain ⟨b1, A1, n1, c1, rfl⟩ := hv1.two
      obtain ⟨A2, c2, l2, rfl, q⟩ := hv2
      have HV : Hid (VI w1 (.agg #[.int .i64 2, .bool (decide (z < 0)), .slice A2 l2.length c2, .int .u64 0, .string ⟨#[]⟩, .slice none 0 0]) z) := Lib.hid ⟨A2, c2, l2, rfl, q.1, q.2.1⟩
      clear q hv1
      go_wp2_with fail
      have hk2 := (hk1.alloc hk1.size (.cells #[.bool b1, .slice A1 n1 c1] 24)).alloc (Nat.le_trans hk1.size (by simp)) (.cells #[.int .i64 2, .bool (decide (z < 0)), .slice A2 l2.length c2, .int .u64 0, .string ⟨#[]⟩, .slice none 0 0] 28)
      have kk : Kept w1 ((w1.alloc (.cells #[.bool b1, .slice A1 n1 c1] 24)).alloc (.cells #[.int .i64 2, .bool (decide (z < 0)), .slice A2 l2.length c2, .int .u64 0, .string ⟨#[]⟩, .slice none 0 0] 28)) := ((Below.refl _ _).alloc (Nat.le_refl _) (.cells #[.bool b1, .slice A1 n1 c1] 24)).alloc (by simp) (.cells #[.int .i64 2, .bool (decide (z < 0)), .slice A2 l2.length c2, .int .u64 0, .string ⟨#[]⟩, .slice none 0 0] 28)
      have HV2 := Lib.hid (HV.out.below kk)
      have HX2 := Lib.hid (HX.out.below kk)
      have hp : Blk ((w1.alloc (.cells #[.bool b1, .slice A1 n1 c1] 24)).alloc (.cells #[.int .i64 2, .bool (decide (z < 0)), .slice A2 l2.length c2, .int .u64 0, .string ⟨#[]⟩, .slice none 0 0] 28)) (w1.heap.size + 1) 28 #[.int .i64 2, .bool (decide (z < 0)), .slice A2 l2.length c2, .int .u64 0, .string ⟨#[]⟩, .slice none 0 0] := by
        have := Blk.new (w1.alloc (.cells #[.bool b1, .slice A1 n1 c1] 24)) 28 #[.int .i64 2, .bool (decide (z < 0)), .slice A2 l2.length c2, .int .u64 0, .string ⟨#[]⟩, .slice none 0 0]
        rwa [World.size_alloc] at this
      have hx : Blk ((w1.alloc (.cells #[.bool b1, .slice A1 n1 c1] 24)).alloc (.cells #[.int .i64 2, .bool (decide (z < 0)), .slice A2 l2.length c2, .int .u64 0, .string ⟨#[]⟩, .slice none 0 0] 28)) w1.heap.size 24 #[.bool b1, .slice A1 n1 c1] :=
        (Blk.new w1 _ _).below ((Below.refl _ _).alloc (Nat.le_refl _) _)
      clear kk HV HX
      generalize ((w1.alloc (.cells #[.bool b1, .slice A1 n1 c1] 24)).alloc (.cells #[.int .i64 2, .bool (decide (z < 0)), .slice A2 l2.length c2, .int .u64 0, .string ⟨#[]⟩, .slice none 0 0] 28)) = W at *
      have hf := run_from f
      generalize hF : (FloatKind.f64.format.order f.toNat 0 != some Ordering.eq) = F
      have t0 : W.cell? ⟨w1.heap.size, 0, none⟩ = some (.bool b1) := hx.cell 0
      have t1 : W.cell? ⟨w1.heap.size, 1, none⟩ = some (.slice A1 n1 c1) := hx.cell 1
      have u0 : W.cell? ⟨w1.heap.size + 1, 0, none⟩ = some (.int .i64 2) := hp.cell 0
      have u1 : W.cell? ⟨w1.heap.size + 1, 1, none⟩ = some (.bool (decide (z < 0))) := hp.cell 1
      have u2 : W.cell? ⟨w1.heap.size + 1, 2, none⟩ = some (.slice A2 l2.length c2) := hp.cell 2
      have u3 : W.cell? ⟨w1.heap.size + 1, 3, none⟩ = some (.int .u64 0) := hp.cell 3
      have u4 : W.cell? ⟨w1.heap.size + 1, 4, none⟩ = some (.string ⟨#[]⟩) := hp.cell 4
      have u5 : W.cell? ⟨w1.heap.size + 1, 5, none⟩ = some (.slice none 0 0) := hp.cell 5
      have l0 := hp.lt
      have l1 : w1.heap.size < W.heap.size := by omega
      have KEEP : Hid (∀ X : World, Kept W X → X.cell? ⟨w1.heap.size, 0, none⟩ = some (.bool b1) ∧ X.cell? ⟨w1.heap.size, 1, none⟩ = some (.slice A1 n1 c1)
          ∧ X.cell? ⟨w1.heap.size + 1, 0, none⟩ = some (.int .i64 2) ∧ X.cell? ⟨w1.heap.size + 1, 1, none⟩ = some (.bool (decide (z < 0))) ∧ X.cell? ⟨w1.heap.size + 1, 2, none⟩ = some (.slice A2 l2.length c2)
          ∧ X.cell? ⟨w1.heap.size + 1, 3, none⟩ = some (.int .u64 0) ∧ X.cell? ⟨w1.heap.size + 1, 4, none⟩ = some (.string ⟨#[]⟩) ∧ X.cell? ⟨w1.heap.size + 1, 5, none⟩ = some (.slice none 0 0)) := Lib.hid fun X h =>
        ⟨(h.cell l1).trans t0, (h.cell l1).trans t1, (h.cell l0).trans u0, (h.cell l0).trans u1, (h.cell l0).trans u2, (h.cell l0).trans u3, (h.cell l0).trans u4, (h.cell l0).trans u5⟩
      go_region_held3 (fun X : World => X.cell? ⟨w1.heap.size, 0, none⟩ = some (.bool b1) ∧ X.cell? ⟨w1.heap.size, 1, none⟩ = some (.slice A1 n1 c1)
          ∧ X.cell? ⟨w1.heap.size + 1, 0, none⟩ = some (.int .i64 2) ∧ X.cell? ⟨w1.heap.size + 1, 1, none⟩ = some (.bool (decide (z < 0))) ∧ X.cell? ⟨w1.heap.size + 1, 2, none⟩ = some (.slice A2 l2.length c2)
          ∧ X.cell? ⟨w1.heap.size + 1, 3, none⟩ = some (.int .u64 0) ∧ X.cell? ⟨w1.heap.size + 1, 4, none⟩ = some (.string ⟨#[]⟩) ∧ X.cell? ⟨w1.heap.size + 1, 5, none⟩ = some (.slice none 0 0))
        (first
          | exact KEEP.out _ (Below.drew (Below.refl _ _))
          | exact KEEP.out _ hk3
          | exact KEEP.out _ hk4)
        (first
          | (go_at_call 11
             refine (StringTruth_emp _ _).mono ?_
             rintro e w2 ⟨rfl, rfl⟩)
          | (go_at_call 12
             refine (IntTruth_any _ z hzc _ (HV2.out.below (Below.drew (Below.refl _ _)))).mono ?_
             rintro e w2 ⟨rfl, hk3'⟩
             have hk3 : Kept W w2 := Below.trans (Below.drew (Below.refl _ _)) hk3'
             clear hk3')
          | (go_at_call 13
             refine (sZero_any _ z _ (HX2.out.below hk3)).mono ?_
             rintro e w3 ⟨rfl, hk4'⟩
             have hk4 : Kept W w3 := Below.trans hk3 (hk4'.mono hk3.size)
             clear hk4')
          | (go_at_call 14
             refine (FloatTruth_any f _).mono ?_
             rw [hF]
             rintro e w4 ⟨rfl, rfl⟩)
          | fail)
      go_wp2_with fail
      go_ret
      exact ⟨rfl, hk2.trans (hk4.mono hk2.size)⟩
    · have hl' : (2147483647 : Int) < (l.length : Int) := by omega
      go_enter Try.func4, Try.ntmps4
      go_wp2_with fail
      go_ret
      exact ⟨rfl, Below.refl _ _⟩
  · have hq' : (2147483647 : Int) < (s.size : Int) := by omega
    go_enter Try.func4, Try.ntmps4
    go_wp2_with fail
    go_ret
    exact ⟨rfl, Below.refl _ _⟩
end Go.Proofs.Ytikjdibngkcpkaa
