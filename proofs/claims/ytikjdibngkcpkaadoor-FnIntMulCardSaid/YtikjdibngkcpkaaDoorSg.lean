/- The signs of integers. -/
import Derived.Laws.BitsAllLaws
import Derived.Test.YtikjdibngkcpkaaDoorId
namespace Go.Proofs.YtikjdibngkcpkaaDoor
open Go.ChangeShapes Go.WideShapes Go.ChangeAt Go.RowKit
set_option linter.unusedVariables false
set_option maxRecDepth 100000 in
theorem bSign_any (g : Nat) (z : Int) (w : World) (hg : BI w g z) :
    Calls Tryd.prog 16 #[.pointer (some ⟨g, 0, none⟩)] w fun e w' => e = .returned (.int .i64 z.sign) ∧ w = w' := by
  obtain ⟨A, c, ws, hb, hs, hl, _⟩ := hg
  have c0 : w.cell? ⟨g, 0, none⟩ = some (.bool (decide (z < 0))) := hb.cell 0
  have c1 : w.cell? ⟨g, 1, none⟩ = some (.slice A ws.length c) := hb.cell 1
  have hz := hl.nil_iff
  by_cases h0 : z = 0
  · have hws : ws = [] := hz.2 (by omega)
    subst h0 hws
    clear hb hs hl hz
    go_enter Tryd.func16, Tryd.ntmps16
    go_wp2_with fail
    go_ret
    exact ⟨rfl, rfl⟩
  · have hws : ws.length ≠ 0 := fun h => by have := hz.1 (List.eq_nil_of_length_eq_zero h); omega
    by_cases hn : z < 0
    · have e1 : decide (z < 0) = true := decide_eq_true hn
      have e2 : Hid (z.sign = -1) := Lib.hid (Int.sign_eq_neg_one_of_neg hn)
      rw [e1] at c0
      clear hb hs hl hz hn e1 h0
      go_enter Tryd.func16, Tryd.ntmps16
      go_wp2_with fail
      go_ret
      rw [e2.out]
      exact ⟨rfl, rfl⟩
    · have e1 : decide (z < 0) = false := decide_eq_false hn
      have e2 : Hid (z.sign = 1) := Lib.hid (Int.sign_eq_one_of_pos (by omega))
      rw [e1] at c0
      clear hb hs hl hz hn e1 h0
      go_enter Tryd.func16, Tryd.ntmps16
      go_wp2_with fail
      go_ret
      rw [e2.out]
      exact ⟨rfl, rfl⟩
end Go.Proofs.YtikjdibngkcpkaaDoor
