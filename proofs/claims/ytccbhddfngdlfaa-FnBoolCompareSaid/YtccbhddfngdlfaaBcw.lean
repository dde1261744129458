import Derived.Test.YtccbhddfngdlfaaRows
import Derived.WalkKit
import Derived.ProofKit
import Derived.Outline
import Derived.Handy
import Derived.WalkLawsBesides
import Derived.WalkSpells
import Derived.Deep.QuietTactic
import Derived.BigQuiet
namespace Go.Proofs.Ytccbhddfngdlfaa.fnBoolCompare
open Go.ChangeShapes Go.WideShapes Go.ChangeAt Go.RowKit
set_option linter.unusedVariables false

theorem tmod6 (x : Int) : -5 ≤ x.tmod 6 ∧ x.tmod 6 ≤ 5 := by
  have h1 := Int.tmod_lt_of_pos x (b := 6) (by omega)
  have h2 := Int.tmod_lt_of_pos (-x) (b := 6) (by omega)
  rw [Int.neg_tmod] at h2
  omega
theorem asOp_any (a0 : Int) (w : World) :
    Calls Try.prog 11 #[.int .i64 a0] w fun e w' => (∃ r : Int, 13 ≤ r ∧ r ≤ 18 ∧ e = .returned (.int .i64 r)) ∧ w = w' := by
  have h := tmod6 a0
  go_enter Try.func11, Try.ntmps11
  go_wp2
  go_ret
  exact ⟨⟨a0.tmod 6 % 6 + 13, by omega, by omega, rfl⟩, rfl⟩

theorem compared_any (b : Bool) (w : World) :
    Calls Try.prog 20 #[.bool b, .nilIface] w fun e w' => e = .returned (.tuple #[.bool b, .bool true]) ∧ ∃ n, w' = w.drewN n := by
  cases b
  all_goals
    go_enter Try.func20, Try.ntmps20
    go_wp2
    go_quiet (fail)
    go_wp2
    go_ret2
    exact ⟨rfl, _, rfl⟩
def tok (r : Int) : Int := if r = 13 then 37 else if r = 14 then 38 else if r = 15 then 33 else if r = 16 then 36 else if r = 17 then 34 else 35
theorem comparing_any (r : Int) (h1 : 13 ≤ r) (h2 : r ≤ 18) (w : World) :
    Calls Try.prog 19 #[.int .i64 r] w fun e w' => e = .returned (.tuple #[.int .i8 (tok r), .bool true]) ∧ Below w.heap.size w w' := by
  have h : r = 13 ∨ r = 14 ∨ r = 15 ∨ r = 16 ∨ r = 17 ∨ r = 18 := by omega
  rcases h with rfl | rfl | rfl | rfl | rfl | rfl
  all_goals
    go_enter Try.func19, Try.ntmps19
    go_wp2
    go_ret2
    exact ⟨rfl, by go_grown⟩
def lt (a b : Bool) : Int := (if a then 1 else 0) - (if b then 1 else 0)
def opB (r : Int) (c : Int) : Bool := if r = 13 then c == 0 else if r = 14 then c != 0 else if r = 15 then decide (c < 0) else if r = 16 then decide (c ≤ 0) else if r = 17 then decide (0 < c) else decide (0 ≤ c)
@[go_sem] theorem as51 (v : Value) (w : World) : (Instr.typeAssert (.iface 51 v) 69 51 false).run Try.prog w = .ok v w := by kernel_rfl
set_option maxRecDepth 100000 in
theorem same_any (r : Int) (h1 : 13 ≤ r) (h2 : r ≤ 18) (a b : Bool) (w : World) :
    Calls Try.prog 21 #[.bool a, .int .i8 (tok r), .iface 51 (.bool b), .int .i64 1] w fun e w' => e = .returned (.tuple #[.bool (opB r (lt a b)), .nilIface]) ∧ w = w' := by
  have h : r = 13 ∨ r = 14 ∨ r = 15 ∨ r = 16 ∨ r = 17 ∨ r = 18 := by omega
  rcases h with rfl | rfl | rfl | rfl | rfl | rfl
  all_goals
    cases a <;> cases b
    all_goals
      simp (decide := true) only [tok, if_true, if_false]
      go_enter Try.func21, Try.ntmps21
      go_wp2
      go_ret2
      exact ⟨rfl, rfl⟩
theorem boolCompare_any (r : Int) (h1 : 13 ≤ r) (h2 : r ≤ 18) (a b : Bool) (w : World) :
    Calls Try.prog 12 #[.int .i64 r, .bool a, .bool b] w fun e w' => e = .returned (.tuple #[.bool (opB r (lt a b)), .bool true]) ∧ Below w.heap.size w w' := by
  go_enter Try.func12, Try.ntmps12
  go_wp2_with fail
  refine (comparing_any r h1 h2 _).mono ?_
  rintro e w1 ⟨rfl, hg⟩
  go_wp2_with fail
  refine (same_any r h1 h2 _ _ _).mono ?_
  rintro e w2 ⟨rfl, rfl⟩
  go_wp2_with fail
  refine (compared_any _ _).mono ?_
  rintro e w2 ⟨rfl, n, rfl⟩
  go_wp2_with fail
  go_ret2
  exact ⟨rfl, below_drewN hg _⟩
def bv (b : Bool) : Value := .agg #[.int .i64 1, .bool false, .slice none 0 0, .int .u64 (if b then 1 else 0), .string ByteArray.empty, .slice none 0 0]
theorem boolVal_any (b : Bool) (w : World) :
    Calls Try.prog 14 #[.bool b] w fun e w' => e = .returned (bv b) ∧ Below w.heap.size w w' := by
  cases b
  all_goals
    go_enter Try.func14, Try.ntmps14
    go_wp2
    go_returns
    exact ⟨rfl, by go_grown⟩

set_option maxRecDepth 100000 in
theorem equal_any (x y : Int) (w : World) :
    Calls Try.prog 22 #[.agg #[.int .i64 1, .bool false, .slice none 0 0, .int .u64 x, .string ⟨#[]⟩, .slice none 0 0], .agg #[.int .i64 1, .bool false, .slice none 0 0, .int .u64 y, .string ⟨#[]⟩, .slice none 0 0]] w
      fun e w' => e = .returned (.bool (x == y)) ∧ Below w.heap.size w w' := by
  go_enter Try.func22, Try.ntmps22
  go_wp2
  go_ret
  exact ⟨rfl, by go_grown⟩
theorem and01 : bits .and .u64 0 1 = 0 := by decide +kernel
theorem and11 : bits .and .u64 1 1 = 1 := by decide +kernel
set_option maxRecDepth 100000 in
set_option maxHeartbeats 1000000 in
theorem compare_any (r : Int) (h1 : 13 ≤ r) (h2 : r ≤ 18) (a b : Bool) (w : World) :
    Calls Try.prog 13 #[.int .i64 r, bv a, bv b] w fun e w' => e = .returned (.tuple #[.bool (opB r (lt a b)), .bool true]) ∧ Below w.heap.size w w' := by
  have h : r = 13 ∨ r = 14 ∨ r = 15 ∨ r = 16 ∨ r = 17 ∨ r = 18 := by omega
  rcases h with rfl | rfl | rfl | rfl | rfl | rfl
  iterate 2
    · cases a <;> cases b
      all_goals
        simp only [bv, if_true, if_false, Bool.false_eq_true]
        go_enter Try.func13, Try.ntmps13
        go_wp2_with fail
        refine (equal_any _ _ _).mono ?_
        rintro e w2 ⟨rfl, hb⟩
        go_wp2_with fail
        go_ret2
        exact ⟨rfl, Below.trans (by go_grown) (hb.mono (by simp; omega))⟩
  all_goals
    cases a <;> cases b
    all_goals
      simp only [bv, if_true, if_false, Bool.false_eq_true]
      have e1 := and01
      have e2 := and11
      go_enter Try.func13, Try.ntmps13
      go_wp2
      go_ret2
      exact ⟨rfl, by go_grown⟩
end Go.Proofs.Ytccbhddfngdlfaa.fnBoolCompare
