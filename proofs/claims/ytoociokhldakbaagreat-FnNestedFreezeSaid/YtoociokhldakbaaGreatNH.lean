/- turn, BoolVal; a cleaned value. -/
import Derived.Test.YtoociokhldakbaaGreatNG
import Derived.OwnWalk
import Derived.Deep.DeepMust
import Derived.Deep.AppendLies
namespace Go.Proofs.YtoociokhldakbaaGreat
open Go.ChangeShapes Go.WideShapes Go.ChangeAt Go.RowKit
set_option linter.unusedVariables false
set_option maxRecDepth 100000 in
/-- in 0 .. m-1, for m of at most 100 -/
theorem turn_any (x : Int) (m : Nat) (hm : 0 < m) (hm2 : m ≤ 100) (w : World) : Calls Tryz.prog 11 #[.int .i64 x, .int .i64 (m : Int)] w fun e w' => (∃ y : Nat, y < m ∧ e = .returned (.int .i64 (y : Int))) ∧ Kept w w' := by
  have m0 : (m : Int) ≠ 0 := by omega
  have mI : (m : Int) ≤ 100 := by omega
  have a1 : x.tmod m < m := Int.tmod_lt_of_pos x (by omega)
  have a2 : -(m : Int) < x.tmod m := Int.lt_tmod_of_pos x (by omega)
  have e1 : wrap64 (x.tmod m + m) = x.tmod m + m := by
    unfold wrap64
    omega
  have e2 : (x.tmod m + m).tmod m = (x.tmod m + m) % m := Int.tmod_eq_emod_of_nonneg (by omega)
  have b1 := Int.emod_nonneg (x.tmod m + m) m0
  have b2 := Int.emod_lt_of_pos (x.tmod m + m) (show (0 : Int) < m by omega)
  have HE : Hid ((wrap64 (x.tmod m + m)).tmod m = (((x.tmod m + m) % m).toNat : Nat) ∧ ((x.tmod m + m) % m).toNat < m) := Lib.hid ⟨by rw [e1, e2]; omega, by omega⟩
  clear e1 e2 b1 b2 a1 a2
  go_enter Tryz.func11, Tryz.ntmps11
  go_wp2_with fail
  go_ret
  exact ⟨⟨_, HE.out.2, by show Ending.returned (.int .i64 ((wrap64 (x.tmod m + m)).tmod m)) = _; rw [HE.out.1]⟩, Below.refl _ _⟩
/-- a value without kids, cleaned: kind, sign, bytes (none but for an integer), bits, text -/
def CV (B : Nat) (w : World) (k : Int) (v : Value) : Prop :=
  ∃ (ng : Bool) (A : Option Addr) (c : Nat) (l : List Nat) (bits : Nat) (t : ByteArray), v = .agg #[.int .i64 k, .bool ng, .slice A l.length c, .int .u64 (bits : Int), .string t, .slice none 0 0] ∧ Sl w A c (by8 l) ∧ Fz B A ∧ l.length ≤ 40 ∧ (∀ d, d ∈ l → d < 256) ∧ (k = 1 → bits ≤ 1) ∧ t.size ≤ 60
def bvv (b : Bool) : Array Value := #[.int .i64 1, .bool false, .slice none 0 0, .int .u64 (if b then 1 else 0), .string ⟨#[]⟩, .slice none 0 0]
theorem info_Vl : (Tryz.prog.info? 33).map (·.size) = some 6 := by kernel_rfl
set_option maxRecDepth 100000 in
theorem BoolVal_any (b : Bool) (w : World) : Calls Tryz.prog 20 #[.bool b] w fun e w' => e = .returned (.agg (bvv b)) ∧ Kept w w' := by
  have ho : Kept w (w.alloc (.cells (bvv b) 33)) := (Below.refl _ _).alloc (Nat.le_refl _) _
  have hb := Blk.new w 33 (bvv b)
  have HO := Lib.hid ho
  have HB := Lib.hid hb
  clear ho hb
  cases b
  all_goals
    go_enter Tryz.func20, Tryz.ntmps20
    go_wp2_with fail
    exact bodyPost_blk rfl rfl HB.out Tryz.underlying33 rfl (by exact info_Vl) rfl ⟨rfl, HO.out⟩
end Go.Proofs.YtoociokhldakbaaGreat
