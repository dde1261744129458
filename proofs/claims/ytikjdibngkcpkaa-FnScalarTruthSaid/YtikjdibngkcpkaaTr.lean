/- What is true of a string, an integer, a float. -/
import Derived.Laws.Externs
import Derived.Laws.BitsAllLaws
import Derived.Test.YtikjdibngkcpkaaId
namespace Go.Proofs.Ytikjdibngkcpkaa
open Go.ChangeShapes Go.WideShapes Go.ChangeAt Go.RowKit
set_option linter.unusedVariables false
theorem run_from (n : Int) (w : World) : (callFunc 15 #[.int .u64 n]).run Try.prog w = .ok (.value (.float .f64 n.toNat)) w :=
  (run_callFunc_extern (fn := Try.f15) (e := Extern.MathFloatBits.float64frombits) (by kernel_rfl) (by kernel_rfl) (by kernel_rfl) (by kernel_rfl) (by kernel_rfl) _ w).trans rfl
set_option maxRecDepth 100000 in
theorem sTruth_any (s : ByteArray) (w : World) :
    Calls Try.prog 34 #[.string s] w fun e w' => e = .returned (.bool (decide (0 < s.size))) ∧ w = w' := by
  go_enter Try.func34, Try.ntmps34
  go_wp2_with fail
  go_ret
  exact ⟨rfl, rfl⟩
set_option maxRecDepth 100000 in
theorem StringTruth_any (s : ByteArray) (w : World) :
    Calls Try.prog 11 #[.string s] w fun e w' => e = .returned (.bool (decide (0 < s.size))) ∧ w = w' := by
  go_enter Try.func11, Try.ntmps11
  go_wp2_with fail
  refine (sTruth_any s w).mono ?_
  rintro e w1 ⟨rfl, rfl⟩
  go_wp2_with fail
  go_ret
  exact ⟨rfl, rfl⟩
set_option maxRecDepth 100000 in
theorem fTruth_any (n : Nat) (w : World) :
    Calls Try.prog 37 #[.float .f64 n] w fun e w' => e = .returned (.bool (FloatKind.f64.format.order n 0 != some Ordering.eq)) ∧ w = w' := by
  go_enter Try.func37, Try.ntmps37
  go_wp2_with fail
  go_ret
  exact ⟨rfl, rfl⟩
set_option maxRecDepth 100000 in
theorem floatOf_any (n : Int) (w : World) :
    Calls Try.prog 36 #[.int .u64 n] w fun e w' => e = .returned (.float .f64 n.toNat) ∧ w = w' := by
  have hf := run_from n
  go_enter Try.func36, Try.ntmps36
  go_wp2_with fail
  go_ret
  exact ⟨rfl, rfl⟩
set_option maxRecDepth 100000 in
theorem sZero_any (v : Value) (z : Int) (w : World) (hv : SI w v z) :
    Calls Try.prog 13 #[v] w fun e w' => e = .returned (.bool (decide (z = 0))) ∧ Kept w w' := by
  obtain ⟨A, c, l, rfl, hs, hl⟩ := hv
  go_enter Try.func13, Try.ntmps13
  go_wp2_with fail
  go_ret
  have e : ((l.length : Int) == 0) = decide (z = 0) := by
    have h1 : l.length = 0 ↔ z = 0 := by rw [List.length_eq_zero_iff, BE.nil_iff hl]; omega
    by_cases h : z = 0
    · simp [h, h1.2 h]
    · simp [h, mt h1.1 h]
  rw [← e]
  exact ⟨rfl, (Below.refl _ _).alloc (Nat.le_refl _) _⟩
set_option maxRecDepth 100000 in
theorem bSign_any (g : Nat) (z : Int) (w : World) (hg : BI w g z) :
    Calls Try.prog 71 #[.pointer (some ⟨g, 0, none⟩)] w fun e w' => e = .returned (.int .i64 z.sign) ∧ w = w' := by
  obtain ⟨A, c, ws, hb, hs, hl, _⟩ := hg
  have c0 : w.cell? ⟨g, 0, none⟩ = some (.bool (decide (z < 0))) := hb.cell 0
  have c1 : w.cell? ⟨g, 1, none⟩ = some (.slice A ws.length c) := hb.cell 1
  have hz := hl.nil_iff
  by_cases h0 : z = 0
  · have hws : ws = [] := hz.2 (by omega)
    subst h0 hws
    clear hb hs hl hz
    go_enter Try.func71, Try.ntmps71
    go_wp2_with fail
    go_ret
    exact ⟨rfl, rfl⟩
  · have hws : ws.length ≠ 0 := fun h => by have := hz.1 (List.eq_nil_of_length_eq_zero h); omega
    by_cases hn : z < 0
    · have e1 : decide (z < 0) = true := decide_eq_true hn
      have e2 : Hid (z.sign = -1) := Lib.hid (Int.sign_eq_neg_one_of_neg hn)
      rw [e1] at c0
      clear hb hs hl hz hn e1 h0
      go_enter Try.func71, Try.ntmps71
      go_wp2_with fail
      go_ret
      rw [e2.out]
      exact ⟨rfl, rfl⟩
    · have e1 : decide (z < 0) = false := decide_eq_false hn
      have e2 : Hid (z.sign = 1) := Lib.hid (Int.sign_eq_one_of_pos (by omega))
      rw [e1] at c0
      clear hb hs hl hz hn e1 h0
      go_enter Try.func71, Try.ntmps71
      go_wp2_with fail
      go_ret
      rw [e2.out]
      exact ⟨rfl, rfl⟩
theorem signum_val (x : Int) (h1 : -2147483648 ≤ x) (h2 : x ≤ 2147483647) :
    wrap64 (bits BinOp.or IntKind.u64 (IntKind.u64.wrap (x / 9223372036854775808)) (IntKind.u64.wrap (-x) / 9223372036854775808)) = x.sign := by
  rcases Int.lt_trichotomy x 0 with h | h | h
  · have a1 : x / 9223372036854775808 = -1 := by omega
    have a2 : IntKind.u64.wrap (-x) = -x := by simp [IntKind.wrap, IntKind.signed, IntKind.bits]; omega
    have a3 : -x / 9223372036854775808 = 0 := by omega
    rw [a1, a2, a3, Int.sign_eq_neg_one_of_neg h]
    decide +kernel
  · subst h
    decide +kernel
  · have a1 : x / 9223372036854775808 = 0 := by omega
    have a2 : IntKind.u64.wrap (-x) = 18446744073709551616 - x := by simp [IntKind.wrap, IntKind.signed, IntKind.bits]; omega
    have a3 : (18446744073709551616 - x) / 9223372036854775808 = 1 := by omega
    rw [a1, a2, a3, Int.sign_eq_one_of_pos h]
    decide +kernel
set_option maxRecDepth 100000 in
theorem signum_any (x : Int) (h1 : -2147483648 ≤ x) (h2 : x ≤ 2147483647) (w : World) :
    Calls Try.prog 95 #[.int .i64 x] w fun e w' => e = .returned (.int .i64 x.sign) ∧ w = w' := by
  go_enter Try.func95, Try.ntmps95
  go_wp2_with fail
  go_ret
  rw [← signum_val x h1 h2]
  exact ⟨rfl, rfl⟩
set_option maxRecDepth 100000 in
theorem iSign_any (v : Value) (z : Int) (w : World) (hv : StI w v z) :
    Calls Try.prog 64 #[v] w fun e w' => e = .returned (.int .i64 z.sign) ∧ Kept w w' := by
  rcases hv with ⟨rfl, hs⟩ | ⟨g, rfl, hb, hs⟩
  · have hr := of_decide_eq_true hs
    have HR := Lib.hid hr
    clear hr hs
    go_enter Try.func64, Try.ntmps64
    go_wp2_with fail
    refine (get_any z none _).mono ?_
    rintro e w1 ⟨rfl, hk⟩
    go_wp2_with fail
    refine (signum_any z HR.out.1 HR.out.2 w1).mono ?_
    rintro e w2 ⟨rfl, rfl⟩
    go_wp2_with fail
    go_ret
    exact ⟨rfl, (alloc_kept hk).1⟩
  · have HB := Lib.hid hb
    clear hb hs
    go_enter Try.func64, Try.ntmps64
    go_wp2_with fail
    refine (get_any 0 (some ⟨g, 0, none⟩) _).mono ?_
    rintro e w1 ⟨rfl, hk⟩
    have hk1 := (alloc_kept hk).1
    have HB1 := Lib.hid (HB.out.below hk1)
    go_wp2_with fail
    refine (bSign_any g z w1 HB1.out).mono ?_
    rintro e w2 ⟨rfl, rfl⟩
    go_wp2_with fail
    go_ret
    exact ⟨rfl, hk1⟩
set_option maxRecDepth 100000 in
theorem iTruth_any (v : Value) (z : Int) (w : World) (hv : StI w v z) :
    Calls Try.prog 35 #[v] w fun e w' => e = .returned (.bool (!decide (z = 0))) ∧ Kept w w' := by
  have h2 : (z.sign == 0) = decide (z = 0) := by
    by_cases h : z = 0
    · subst h; rfl
    · rw [decide_eq_false h]; simpa using h
  have H2 := Lib.hid h2
  have HV := Lib.hid hv
  obtain ⟨x, p, rfl⟩ : ∃ x p, v = .agg #[.int .i64 x, .pointer p] := by
    rcases hv with ⟨rfl, _⟩ | ⟨g, rfl, _⟩
    · exact ⟨_, _, rfl⟩
    · exact ⟨_, _, rfl⟩
  clear hv h2
  go_enter Try.func35, Try.ntmps35
  go_wp2_with fail
  refine (iSign_any _ z _ (HV.out.below ((Below.refl _ _).alloc (Nat.le_refl _) _))).mono ?_
  rintro e w1 ⟨rfl, hk⟩
  go_wp2_with fail
  go_ret
  rw [← H2.out]
  exact ⟨rfl, (alloc_kept hk).1⟩
set_option maxRecDepth 100000 in
theorem IntTruth_any (v : Value) (z : Int) (hz : z.natAbs < Num.Cap) (w : World) (hv : VI w v z) :
    Calls Try.prog 12 #[v] w fun e w' => e = .returned (.bool (!decide (z = 0))) ∧ Kept w w' := by
  have HV := Lib.hid hv
  obtain ⟨A, c, l, rfl, _, _⟩ := hv
  go_enter Try.func12, Try.ntmps12
  go_wp2_with fail
  refine (whole_any _ z hz _ (HV.out.below ((Below.refl _ _).alloc (Nat.le_refl _) _))).mono ?_
  rintro e w1 ⟨v1, rfl, hv1, hk1⟩
  have hk := (alloc_kept hk1).1
  have HV1 := Lib.hid hv1.toStI
  obtain ⟨x, p, rfl⟩ := hv1.two
  clear hv1
  go_wp2_with fail
  refine (iTruth_any _ z w1 HV1.out).mono ?_
  rintro e w2 ⟨rfl, hk2⟩
  generalize hD : (!decide (z = 0)) = D
  have HD := Lib.hid hD
  clear hD
  go_wp2_with fail
  go_ret
  rw [HD.out]
  exact ⟨rfl, hk.trans hk2⟩
set_option maxRecDepth 100000 in
theorem FloatTruth_any (n : Int) (w : World) :
    Calls Try.prog 14 #[.int .u64 n] w fun e w' => e = .returned (.bool (FloatKind.f64.format.order n.toNat 0 != some Ordering.eq)) ∧ w = w' := by
  go_enter Try.func14, Try.ntmps14
  go_wp2_with fail
  refine (floatOf_any n w).mono ?_
  rintro e w1 ⟨rfl, rfl⟩
  go_wp2_with fail
  refine (fTruth_any n.toNat w).mono ?_
  rintro e w2 ⟨rfl, rfl⟩
  go_wp2_with fail
  go_ret
  exact ⟨rfl, rfl⟩
end Go.Proofs.Ytikjdibngkcpkaa
