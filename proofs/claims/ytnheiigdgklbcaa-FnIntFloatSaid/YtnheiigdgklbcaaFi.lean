/- Infinities, and a float's bits. -/
import Derived.Test.YtnheiigdgklbcaaLs
import Derived.Laws.Externs
import Derived.Deep.RegionHeld3
namespace Go.Proofs.Ytnheiigdgklbcaa
open Go.ChangeShapes Go.WideShapes Go.ChangeAt Go.RowKit
set_option linter.unusedVariables false
theorem run_bits (b : Nat) (w : World) : (callFunc 6 #[.float .f64 b]).run Try.prog w = .ok (.value (.int .u64 (b : Int))) w := by
  rw [run_callFunc_extern (fn := Try.f6) (e := Extern.MathFloatBits.float64bits) (by kernel_rfl) (by kernel_rfl) (by kernel_rfl) (by kernel_rfl) (by kernel_rfl) _ w]
  rfl
theorem run_frombits (b : Nat) (w : World) : (callFunc 55 #[.int .u64 (b : Int)]).run Try.prog w = .ok (.value (.float .f64 b)) w := by
  rw [run_callFunc_extern (fn := Try.f55) (e := Extern.MathFloatBits.float64frombits) (by kernel_rfl) (by kernel_rfl) (by kernel_rfl) (by kernel_rfl) (by kernel_rfl) _ w]
  rfl
/-- the infinity of a sign -/
def infOf (neg : Bool) : Nat := if neg then 18442240474082181120 else 9218868437227405312
theorem infOf_word (neg : Bool) : infOf neg = Ieee.double.word neg 9218868437227405312 := by
  cases neg <;> rfl
set_option maxRecDepth 100000 in
theorem mathInf_any (s : Int) (w : World) : Calls Try.prog 34 #[.int .i64 s] w fun e w' => e = .returned (.float .f64 (infOf (decide (s < 0)))) ∧ w = w' := by
  have h1 := fun W => run_frombits 9218868437227405312 W
  have h2 := fun W => run_frombits 18442240474082181120 W
  simp only [Int.cast_ofNat_Int] at h1 h2
  by_cases hs : 0 ≤ s
  · have e : decide (s < 0) = false := decide_eq_false (by omega)
    rw [e]
    clear e
    go_enter Try.func34, Try.ntmps34
    go_wp2_with fail
    go_ret
    exact ⟨rfl, rfl⟩
  · have e : decide (s < 0) = true := decide_eq_true (by omega)
    rw [e]
    clear e
    go_enter Try.func34, Try.ntmps34
    go_wp2_with fail
    go_ret
    exact ⟨rfl, rfl⟩
set_option maxRecDepth 100000 in
theorem inf_any (neg : Bool) (w : World) : Calls Try.prog 22 #[.bool neg] w fun e w' => e = .returned (.float .f64 (infOf neg)) ∧ w = w' := by
  cases neg
  · go_enter Try.func22, Try.ntmps22
    go_wp2_with fail
    refine (mathInf_any 1 _).mono ?_
    rintro e w1 ⟨rfl, rfl⟩
    go_wp2_with fail
    go_ret
    exact ⟨rfl, rfl⟩
  · go_enter Try.func22, Try.ntmps22
    go_wp2_with fail
    refine (mathInf_any (-1) _).mono ?_
    rintro e w1 ⟨rfl, rfl⟩
    go_wp2_with fail
    go_ret
    exact ⟨rfl, rfl⟩
set_option maxRecDepth 100000 in
theorem bitsOf_any (b : Nat) (w : World) : Calls Try.prog 10 #[.float .f64 b] w fun e w' => e = .returned (.int .u64 (b : Int)) ∧ w = w' := by
  have h1 := fun W => run_bits b W
  go_enter Try.func10, Try.ntmps10
  go_wp2_with fail
  go_ret
  exact ⟨rfl, rfl⟩
end Go.Proofs.Ytnheiigdgklbcaa
