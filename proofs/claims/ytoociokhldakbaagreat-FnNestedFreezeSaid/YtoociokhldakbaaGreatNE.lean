/- Append onto a frozen list. -/
import Derived.Test.YtoociokhldakbaaGreatND
import Derived.OwnWalk
import Derived.Deep.DeepMust
import Derived.Deep.AppendLies
namespace Go.Proofs.YtoociokhldakbaaGreat
open Go.ChangeShapes Go.WideShapes Go.ChangeAt Go.RowKit
set_option linter.unusedVariables false
set_option maxRecDepth 100000 in
/-- onto a frozen list nothing is appended: an error is given back -/
theorem Append_frozen (w : World) (b : Nat) (S : Value) (T : TypeId) (u : Value) (hb : Blk w b 85 #[S, .bool true, .int .u32 0]) :
    Calls Tryz.prog 17 #[.pointer (some ⟨b, 0, none⟩), .iface T u] w fun e w' => (∃ p, e = .returned (.iface 104 (.pointer (some p)))) ∧ Kept w w' := by
  have CM := Lib.hid (checkMutable_any b S true · w hb)
  clear hb
  go_enter Tryz.func17, Tryz.ntmps17
  go_wp2_with fail
  refine (CM.out _).mono ?_
  rintro e w1 ⟨(⟨_, p, rfl⟩ | ⟨h, _⟩), hk⟩
  · have HK := Lib.hid hk
    clear hk
    go_wp2_with fail
    go_ret
    exact ⟨⟨p, rfl⟩, HK.out⟩
  · cases h
end Go.Proofs.YtoociokhldakbaaGreat
