/- An index that lacks, or a small integer. -/
import Derived.Test.YtdbdpllafknlcaaGreatEa
namespace Go.Proofs.YtdbdpllafknlcaaGreat
open Go.ChangeShapes Go.WideShapes Go.ChangeAt Go.RowKit
set_option linter.unusedVariables false
/-- behind asIndex: the variable in block g holds i; all else that lay there is as it was -/
def RetIdx (g : Nat) (i : Int) (w : World) (e : Ending) (w' : World) : Prop := e = .returned .nilIface ∧ Blk w' g 3 #[.int .i64 i] ∧ w.grownBy w' (some g)
theorem blk_set1 {w : World} {g : Nat} {t : TypeId} {a b : Value} (h : Blk w g t #[a]) : Blk (w.setCell ⟨g, 0, none⟩ b) g t #[b] := by
  have h1 : w.heap[g]? = some (.cells #[a] t (0, 0)) := h
  show (w.setCell ⟨g, 0, none⟩ b).heap[g]? = _
  simp [World.setCell, Array.getElem?_modify, h1]
set_option maxRecDepth 100000 in
theorem asIndex_none (g n : Nat) (i : Int) (w : World) (hg : Blk w g 3 #[.int .i64 i]) :
    Calls Tryz.prog 32 #[.iface 70 (.int .u8 0), .int .i64 n, .pointer (some ⟨g, 0, none⟩)] w (RetIdx g i w) := by
  have tn : ∀ w : World, (binOp .neq 48 (.iface 70 (.int .u8 0)) (.iface 70 (.int .u8 0))).run Tryz.prog w = .ok (.bool false) w := fun _ => by kernel_rfl
  have HG := Lib.hid hg
  clear hg
  go_enter Tryz.func32, Tryz.ntmps32
  go_wp2_with fail
  go_ret
  exact ⟨rfl, HG.out, only_of_kept (Below.refl _ _) _⟩
set_option maxRecDepth 100000 in
set_option maxHeartbeats 1000000 in
theorem asIndex_num (x : Int) (p : Option Addr) (z : Int) (g n : Nat) (i : Int) (hn : n ≤ 2147483647) (hz : Sm z = true) (z1 : -2147483648 ≤ z) (z2 : z ≤ 2147483647) (w : World) (hg : Blk w g 3 #[.int .i64 i]) (hv : StI w (.agg #[.int .i64 x, .pointer p]) z) :
    Calls Tryz.prog 32 #[.iface 76 (.agg #[.int .i64 x, .pointer p]), .int .i64 n, .pointer (some ⟨g, 0, none⟩)] w (RetIdx g (if z < 0 then z + n else z) w) := by
  have tn : ∀ w : World, (binOp .neq 48 (.iface 76 (.agg #[.int .i64 x, .pointer p])) (.iface 70 (.int .u8 0))).run Tryz.prog w = .ok (.bool true) w := fun _ => by kernel_rfl
  obtain ⟨r, hr⟩ : ∃ r : Int, r = if z < 0 then z + n else z := ⟨_, rfl⟩
  rw [← hr]
  have HR := Lib.hid hr
  clear hr
  have HC := Lib.hid (AsInt32_any x p z w hv)
  have HG := Lib.hid hg
  clear hg hv
  go_enter Tryz.func32, Tryz.ntmps32
  go_wp2_with fail
  refine (HC.out).mono ?_
  rintro e w1 ⟨⟨_, rfl⟩ | ⟨h, _⟩, hk⟩
  · have hgl := HG.out.lt
    have hg1 := HG.out.below hk
    have c0 : w1.cell? ⟨g, 0, none⟩ = some (.int .i64 i) := hg1.cell 0
    have f0 : w1.frozen? ⟨g, 0, none⟩ = false := hg1.frozen 0
    have h1 := blk_set1 (b := .int .i64 z) hg1
    have c1 : (w1.setCell ⟨g, 0, none⟩ (.int .i64 z)).cell? ⟨g, 0, none⟩ = some (.int .i64 z) := h1.cell 0
    have f1 : (w1.setCell ⟨g, 0, none⟩ (.int .i64 z)).frozen? ⟨g, 0, none⟩ = false := h1.frozen 0
    have h2 := blk_set1 (b := .int .i64 (z + n)) h1
    have hb : w.grownBy w1 (some g) := only_of_kept hk _
    have hs1 := hk.size
    have H1 := Lib.hid h1
    have H2 := Lib.hid h2
    have HB := Lib.hid hb
    clear h1 h2 hb hg1 hk
    by_cases hlt : z < 0
    · obtain rfl : r = z + n := by rw [HR.out, if_pos hlt]
      go_wp2_with fail
      go_ret
      exact ⟨rfl, H2.out, only_set (only_set HB.out 0 _) 0 _⟩
    · obtain rfl : r = z := by rw [HR.out, if_neg hlt]
      go_wp2_with fail
      go_ret
      exact ⟨rfl, H1.out, only_set HB.out 0 _⟩
  · rw [hz] at h; cases h
end Go.Proofs.YtdbdpllafknlcaaGreat
