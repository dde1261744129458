/- An index. -/
import Derived.Test.YtdbdpllafknlcaaGreatEb
namespace Go.Proofs.YtdbdpllafknlcaaGreat
open Go.ChangeShapes Go.WideShapes Go.ChangeAt Go.RowKit
set_option linter.unusedVariables false
/-- a part that lacks, or a small integer -/
def PV (w : World) (v : Value) : Option Int → Prop
  | none => v = .iface 70 (.int .u8 0)
  | some z => ∃ x p, v = .iface 76 (.agg #[.int .i64 x, .pointer p]) ∧ StI w (.agg #[.int .i64 x, .pointer p]) z ∧ Sm z = true ∧ -2147483648 ≤ z ∧ z ≤ 2147483647
theorem asIndex_any (v : Value) (o : Option Int) (g n : Nat) (i : Int) (hn : n ≤ 2147483647) (w : World) (hg : Blk w g 3 #[.int .i64 i]) (hv : PV w v o) :
    Calls Tryz.prog 32 #[v, .int .i64 n, .pointer (some ⟨g, 0, none⟩)] w (RetIdx g (idx n o i) w) := by
  cases o with
  | none =>
    obtain rfl : v = .iface 70 (.int .u8 0) := hv
    exact asIndex_none g n i w hg
  | some z =>
    obtain ⟨x, p, rfl, h1, h2, h3, h4⟩ := hv
    exact asIndex_num x p z g n i hn h2 h3 h4 w hg h1
theorem PV.below {w w' : World} {v : Value} {o : Option Int} (h : PV w v o) (hb : Kept w w') : PV w' v o := by
  cases o with
  | none => exact h
  | some z =>
    obtain ⟨x, p, e, h1, h2⟩ := h
    exact ⟨x, p, e, h1.below hb, h2⟩
end Go.Proofs.YtdbdpllafknlcaaGreat
