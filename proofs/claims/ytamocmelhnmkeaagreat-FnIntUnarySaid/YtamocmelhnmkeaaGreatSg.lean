/- The signs of integers. -/
import Derived.Laws.BitsAllLaws
import Derived.Test.YtamocmelhnmkeaaGreatId
namespace Go.Proofs.YtamocmelhnmkeaaGreat
open Go.ChangeShapes Go.WideShapes Go.ChangeAt Go.RowKit
set_option linter.unusedVariables false
set_option maxRecDepth 100000 in
theorem bSign_any (g : Nat) (z : Int) (w : World) (hg : BI w g z) :
    Calls Tryz.prog 99 #[.pointer (some ⟨g, 0, none⟩)] w fun e w' => e = .returned (.int .i64 z.sign) ∧ w = w' := by
  obtain ⟨A, c, ws, hb, hs, hl, _⟩ := hg
  have c0 : w.cell? ⟨g, 0, none⟩ = some (.bool (decide (z < 0))) := hb.cell 0
  have c1 : w.cell? ⟨g, 1, none⟩ = some (.slice A ws.length c) := hb.cell 1
  have hz := hl.nil_iff
  by_cases h0 : z = 0
  · have hws : ws = [] := hz.2 (by omega)
    subst h0 hws
    clear hb hs hl hz
    go_enter Tryz.func99, Tryz.ntmps99
    go_wp2_with fail
    go_ret
    exact ⟨rfl, rfl⟩
  · have hws : ws.length ≠ 0 := fun h => by have := hz.1 (List.eq_nil_of_length_eq_zero h); omega
    by_cases hn : z < 0
    · have e1 : decide (z < 0) = true := decide_eq_true hn
      have e2 : Hid (z.sign = -1) := Lib.hid (Int.sign_eq_neg_one_of_neg hn)
      rw [e1] at c0
      clear hb hs hl hz hn e1 h0
      go_enter Tryz.func99, Tryz.ntmps99
      go_wp2_with fail
      go_ret
      rw [e2.out]
      exact ⟨rfl, rfl⟩
    · have e1 : decide (z < 0) = false := decide_eq_false hn
      have e2 : Hid (z.sign = 1) := Lib.hid (Int.sign_eq_one_of_pos (by omega))
      rw [e1] at c0
      clear hb hs hl hz hn e1 h0
      go_enter Tryz.func99, Tryz.ntmps99
      go_wp2_with fail
      go_ret
      rw [e2.out]
      exact ⟨rfl, rfl⟩
theorem signum_val (x : Int) (h1 : -2147483648 ≤ x) (h2 : x ≤ 2147483647) :
    wrap64 (bits BinOp.or IntKind.u64 (IntKind.u64.wrap (x / 9223372036854775808)) (IntKind.u64.wrap (-x) / 9223372036854775808)) = x.sign := by
  rcases Int.lt_trichotomy x 0 with h | h | h
  · have a1 : x / 9223372036854775808 = -1 := by omega
    have a2 : IntKind.u64.wrap (-x) = -x := by simp [IntKind.wrap, IntKind.signed, IntKind.bits]; omega
    have a3 : -x / 9223372036854775808 = 0 := by omega
    rw [a1, a2, a3, Int.sign_eq_neg_one_of_neg h]
    decide +kernel
  · subst h
    decide +kernel
  · have a1 : x / 9223372036854775808 = 0 := by omega
    have a2 : IntKind.u64.wrap (-x) = 18446744073709551616 - x := by simp [IntKind.wrap, IntKind.signed, IntKind.bits]; omega
    have a3 : (18446744073709551616 - x) / 9223372036854775808 = 1 := by omega
    rw [a1, a2, a3, Int.sign_eq_one_of_pos h]
    decide +kernel
set_option maxRecDepth 100000 in
theorem signum_any (x : Int) (h1 : -2147483648 ≤ x) (h2 : x ≤ 2147483647) (w : World) :
    Calls Tryz.prog 191 #[.int .i64 x] w fun e w' => e = .returned (.int .i64 x.sign) ∧ w = w' := by
  go_enter Tryz.func191, Tryz.ntmps191
  go_wp2_with fail
  go_ret
  rw [← signum_val x h1 h2]
  exact ⟨rfl, rfl⟩
end Go.Proofs.YtamocmelhnmkeaaGreat
