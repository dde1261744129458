/- A word added. -/
import Derived.Shelf.Spec.BitsCarry
import Derived.Laws.Externs
import Derived.Test.YtikjdibngkcpkaaDoorNu
import Derived.Test.YtikjdibngkcpkaaDoorSb
import Derived.Deep.RegionHeld3
namespace Go.Proofs.YtikjdibngkcpkaaDoor
open Go.ChangeShapes Go.WideShapes Go.ChangeAt Go.RowKit
set_option linter.unusedVariables false
theorem quiet_left {P : Program} {f : FuncId} {args : Array Value} {w : World} {n : Nat} {v : Value}
    (h : Calls P f args (w.drewN n) fun e w' => e = .returned v ∧ w.drewN n = w') : Calls P f args (w.drewN n) fun e w' => e = .returned v ∧ ∃ m, w' = w.drewN m :=
  h.mono fun _ _ ⟨he, hm⟩ => ⟨he, n, hm.symm⟩
theorem run_Add64 (x y c z k : Nat) (hc : c ≤ 1) (hz : z < 18446744073709551616) (h : z + 18446744073709551616 * k = x + y + c) (w : World) :
    (callFunc 90 #[.int .u64 (x : Int), .int .u64 (y : Int), .int .u64 (c : Int)]).run Tryd.prog w = .ok (.value (.tuple #[.int .u64 (z : Int), .int .u64 (k : Int)])) w := by
  have e1 : ((x : Int) + y + c) % 18446744073709551616 = z := by omega
  have e2 : ((x : Int) + y + c) / 18446744073709551616 = k := by omega
  rw [run_callFunc_extern (fn := Tryd.f90) (e := add64Entry) (by kernel_rfl) (by kernel_rfl) (by kernel_rfl) (by kernel_rfl) (by kernel_rfl) _ w,
    run_add64 (x : Int) (y : Int) (c : Int) (by omega) (by omega) (by omega) (by omega), e1, e2]
  rfl
set_option maxRecDepth 100000 in
theorem bitsAdd_any (x y c z k : Nat) (hc : c ≤ 1) (hz : z < 18446744073709551616) (h : z + 18446744073709551616 * k = x + y + c) (w : World) :
    Calls Tryd.prog 85 #[.int .u64 (x : Int), .int .u64 (y : Int), .int .u64 (c : Int)] w fun e w' => e = .returned (.tuple #[.int .u64 (z : Int), .int .u64 (k : Int)]) ∧ w = w' := by
  have hr := run_Add64 x y c z k hc hz h
  have HR := Lib.hid h
  clear h hc hz HR
  go_enter Tryd.func85, Tryd.ntmps85
  go_wp2_with fail
  go_ret2
  exact ⟨rfl, rfl⟩
/-- the row when its first i words are those of S -/
def wv (S i : Nat) (f : Nat → Value) (j : Nat) : Value := if j < i then .int .u64 ((Num.dg Num.B64 S j : Nat) : Int) else f j
theorem wv_set (S i : Nat) (f : Nat → Value) : (fun j => if j = i then Value.int .u64 ((Num.dg Num.B64 S i : Nat) : Int) else wv S i f j) = wv S (i + 1) f := by
  funext j
  unfold wv
  by_cases h : j = i
  · subst h; rw [if_pos rfl, if_pos (by omega)]
  · rw [if_neg h]
    by_cases h2 : j < i
    · rw [if_pos h2, if_pos (by omega)]
    · rw [if_neg h2, if_neg (by omega)]
theorem wv_zero (S : Nat) (f : Nat → Value) : wv S 0 f = f := by funext j; unfold wv; rw [if_neg (by omega)]
/-- a slice of words can be read while the first words of row g are laid: its word i is dg X i at round i -/
def Reads (w : World) (g : Nat) (A : Option Addr) (n : Nat) (X : Nat) (P : Nat → World → Prop) : Prop :=
  ∀ i wr, i < n → w.grownBy wr (some g) → P i wr → ∃ b off, A = some ⟨b, off, none⟩ ∧ wr.cell? ⟨b, off + i, none⟩ = some (.int .u64 ((Num.dg Num.B64 X i : Nat) : Int))
theorem grown_drewN {w wr : World} {row : Option Nat} (h : w.grownBy wr row) (n : Nat) : w.grownBy (wr.drewN n) row := ⟨h.os, h.tape, h.output, h.size, h.block⟩
theorem B64_val : Num.B64 = 18446744073709551616 := rfl
end Go.Proofs.YtikjdibngkcpkaaDoor
