/- An index that is no integer; what a sequence that keeps its slice is asked. -/
import Derived.Test.YtdbdpllafknlcaaGreatEc
namespace Go.Proofs.YtdbdpllafknlcaaGreat
open Go.ChangeShapes Go.WideShapes Go.ChangeAt Go.RowKit
set_option linter.unusedVariables false
/-- behind asIndex of no integer: an error; all else is as it was -/
def BadIdx (g : Nat) (w : World) (e : Ending) (w' : World) : Prop := (∃ u, e = .returned (.iface 103 u)) ∧ Blk w' g 3 #[.int .i64 0] ∧ w.grownBy w' (some g)
set_option maxRecDepth 100000 in
theorem AsInt32_text (w : World) :
    Calls Tryz.prog 30 #[.iface 81 (.string ⟨#[]⟩)] w fun e w' => (∃ u, e = .returned (.tuple #[.int .i64 0, .iface 103 u])) ∧ Kept w w' := by
  have hf : ∀ W : World, (Instr.typeAssert (.iface 81 (.string ⟨#[]⟩)) 48 76 true).run Tryz.prog W = .ok (.tuple #[.agg #[.int .i64 0, .pointer none], .bool false]) W := fun _ => by kernel_rfl
  have hk0 : Kept w (w.alloc (.cells #[.int .i64 0, .pointer none] 76)) := by go_grown
  go_enter Tryz.func30, Tryz.ntmps30
  go_wp2_with fail
  refine (errNew_any _ _).mono ?_
  rintro e w2 ⟨⟨u, rfl⟩, hk2⟩
  have hkk := (alloc_kept hk2).1
  go_wp2_with fail
  go_ret2
  exact ⟨⟨u, rfl⟩, hkk⟩
set_option maxRecDepth 100000 in
theorem asIndex_text (g n : Nat) (i : Int) (w : World) (hg : Blk w g 3 #[.int .i64 i]) :
    Calls Tryz.prog 32 #[.iface 81 (.string ⟨#[]⟩), .int .i64 n, .pointer (some ⟨g, 0, none⟩)] w (BadIdx g w) := by
  have tn : ∀ w : World, (binOp .neq 48 (.iface 81 (.string ⟨#[]⟩)) (.iface 70 (.int .u8 0))).run Tryz.prog w = .ok (.bool true) w := fun _ => by kernel_rfl
  have HG := Lib.hid hg
  clear hg
  go_enter Tryz.func32, Tryz.ntmps32
  go_wp2_with fail
  refine (AsInt32_text w).mono ?_
  rintro e w1 ⟨⟨u, rfl⟩, hk⟩
  have hgl := HG.out.lt
  have hg1 := HG.out.below hk
  have c0 : w1.cell? ⟨g, 0, none⟩ = some (.int .i64 i) := hg1.cell 0
  have f0 : w1.frozen? ⟨g, 0, none⟩ = false := hg1.frozen 0
  have hb : w.grownBy w1 (some g) := only_of_kept hk _
  have hs1 := hk.size
  have HB := Lib.hid hb
  have H1 := Lib.hid (blk_set1 (b := .int .i64 0) hg1)
  clear hb hk hg1
  go_wp2_with fail
  go_ret
  exact ⟨⟨u, rfl⟩, H1.out, only_set HB.out 0 _⟩
set_option maxRecDepth 100000 in
theorem askLen_any (g : Nat) (n a b s : Int) (w : World) (hb : Blk w g 54 #[.int .i64 n, .int .i64 a, .int .i64 b, .int .i64 s]) :
    Calls Tryz.prog 76 #[.pointer (some ⟨g, 0, none⟩)] w fun e w' => e = .returned (.int .i64 n) ∧ w = w' := by
  have c0 : w.cell? ⟨g, 0, none⟩ = some (.int .i64 n) := hb.cell 0
  clear hb
  go_enter Tryz.func76, Tryz.ntmps76
  go_wp2_with fail
  go_ret
  exact ⟨rfl, rfl⟩
set_option maxRecDepth 100000 in
theorem askSlice_any (g : Nat) (n a b s a' b' s' : Int) (w : World) (hb : Blk w g 54 #[.int .i64 n, .int .i64 a, .int .i64 b, .int .i64 s]) :
    Calls Tryz.prog 77 #[.pointer (some ⟨g, 0, none⟩), .int .i64 a', .int .i64 b', .int .i64 s'] w fun e w' => e = .returned (.iface 52 (.pointer (some ⟨g, 0, none⟩))) ∧ Blk w' g 54 #[.int .i64 n, .int .i64 a', .int .i64 b', .int .i64 s'] ∧ w.grownBy w' (some g) := by
  have h1 := hb.set 1 (.int .i64 a')
  have h2 := h1.set 2 (.int .i64 b')
  have h3 := h2.set 3 (.int .i64 s')
  have f1 : w.frozen? ⟨g, 1, none⟩ = false := hb.frozen 1
  have f2 : (w.setCell ⟨g, 1, none⟩ (.int .i64 a')).frozen? ⟨g, 2, none⟩ = false := h1.frozen 2
  have f3 : ((w.setCell ⟨g, 1, none⟩ (.int .i64 a')).setCell ⟨g, 2, none⟩ (.int .i64 b')).frozen? ⟨g, 3, none⟩ = false := h2.frozen 3
  have c1 : w.cell? ⟨g, 1, none⟩ = some (.int .i64 a) := hb.cell 1
  have c2 : (w.setCell ⟨g, 1, none⟩ (.int .i64 a')).cell? ⟨g, 2, none⟩ = some (.int .i64 b) := h1.cell 2
  have c3 : ((w.setCell ⟨g, 1, none⟩ (.int .i64 a')).setCell ⟨g, 2, none⟩ (.int .i64 b')).cell? ⟨g, 3, none⟩ = some (.int .i64 s) := h2.cell 3
  have H3 := Lib.hid h3
  clear hb h1 h2 h3
  go_enter Tryz.func77, Tryz.ntmps77
  go_wp2_with fail
  go_ret
  exact ⟨rfl, H3.out, only_set (only_set (only_set (only_of_kept (Below.refl _ _) _) 1 _) 2 _) 3 _⟩
end Go.Proofs.YtdbdpllafknlcaaGreat
