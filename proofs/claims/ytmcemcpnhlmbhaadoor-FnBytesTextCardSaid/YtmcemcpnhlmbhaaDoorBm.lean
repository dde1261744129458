/- spec.coded walked. -/
import Derived.Test.YtmcemcpnhlmbhaaDoorBk
open Go.Lib
namespace Go.Proofs.YtmcemcpnhlmbhaaDoor
open Go.ChangeShapes Go.WideShapes Go.ChangeAt Go.RowKit
set_option linter.unusedVariables false
/-- a part of the answer: bytes at a block's head, and how many of the literal's it takes -/
def RetPart (w : World) (ys : List Int) (size : Nat) (e : Ending) (w' : World) : Prop :=
  ∃ g c, e = .returned (.tuple #[.slice (some ⟨g, 0, none⟩) ys.length c, .int .i64 ((size : Nat) : Int)]) ∧ (∀ j u, (Lib.intCells ys)[j]? = some u → w'.cell? ⟨g, j, none⟩ = some u) ∧ Kept w w'
theorem one_cells (w : World) (x : Int) (j : Nat) (u : Value) (h : (Lib.intCells [x])[j]? = some u) : (w.alloc (.cells #[.int .u8 x] 5)).cell? ⟨w.heap.size, j, none⟩ = some u := by
  have hb := Blk.new w 5 #[.int .u8 x]
  rw [Blk.cell hb j]
  simpa [Lib.intCells] using h
set_option maxRecDepth 100000 in
theorem coded_byte (n size : Nat) (hn : n < 256) (w : World) :
    Calls Tryd.prog 10 #[.int .i64 ((n : Nat) : Int), .bool true, .bool true, .int .i64 ((size : Nat) : Int)] w (RetPart w [((n : Nat) : Int)] size) := by
  have h255 : ¬ (255 : Int) < (n : Int) := by omega
  have hw8 : IntKind.u8.wrap (n : Int) = (n : Int) := wrap_u8_small (by omega) (by omega)
  go_enter Tryd.func10, Tryd.ntmps10
  go_wp2
  all_goals (
    go_returns
    exact ⟨_, 1, rfl, one_cells w _, (Below.refl _ w).alloc (Nat.le_refl _) _⟩)
set_option maxRecDepth 100000 in
theorem coded_rune (r : Int) (size : Nat) (h0 : 0 ≤ r) (hv : Lib.validRune r = true) (w : World) :
    Calls Tryd.prog 10 #[.int .i64 r, .bool false, .bool true, .int .i64 ((size : Nat) : Int)] w (RetPart w (Lib.encodeRuneZ r) size) := by
  have hr : r < 55296 ∨ (57343 < r ∧ r ≤ 1114111) := by
    have := hv
    simp [Lib.validRune] at this
    omega
  have hmax : ¬ (1114111 : Int) < r := by omega
  have hw32 : IntKind.i32.wrap r = r := wrap_i32_small (by omega) (by omega)
  have cA : Calls Tryd.prog 12 #[.slice none 0 0, .int .i32 r] w fun e w' => ∃ g c, e = .returned (.slice (some ⟨g, 0, none⟩) (Lib.encodeRuneZ r).length c) ∧ (∀ j u, (Lib.intCells (Lib.encodeRuneZ r))[j]? = some u → w'.cell? ⟨g, j, none⟩ = some u) ∧ Kept w w' := by
    have hown : w.ownsRowF w.heap.size 5 1 (.slice none 0 0) 0 [] := ⟨rfl, .inl ⟨rfl, rfl⟩⟩
    refine (Tryd.utf8_AppendRune_row w.heap.size _ 0 [] r (by omega) (by omega) w hown (by omega) (Nat.le_refl _)).mono ?_
    rintro e w' ⟨v', rfl, h2, o, h3⟩
    have hb0 : Lib.OwnBuf w.heap.size 5 (.slice none 0 0) 0 [] w w := ⟨hown, Below.refl _ _, Nat.le_refl _⟩
    have hb := (hb0.alloc o).grown h2 h3
    have hl : (Lib.runeCells r).length = (Lib.encodeRuneZ r).length := by simp [Lib.runeCells]
    have h1 := (Lib.encodeRuneZ_length r).1
    rw [hl] at hb
    obtain ⟨g, c, rfl, hc⟩ := buf_cells (l := Lib.encodeRuneZ r) (by rw [List.nil_append]; exact hb) (by omega)
    refine ⟨g, c, rfl, ?_, hb.2.1⟩
    intro j u hj
    have hjl : j < (Lib.encodeRuneZ r).length := by
      have := (List.getElem?_eq_some_iff.1 hj).1
      simpa [Lib.intCells] using this
    have := hc j hjl
    rw [Nat.zero_add] at this
    rw [this, ← hj]
    simp [Lib.intCells, List.getD, List.getElem?_eq_getElem hjl]
  clear hv
  by_cases hlow : r < 55296
  · have hs : ¬ (55296 : Int) ≤ r := by omega
    go_enter Tryd.func10, Tryd.ntmps10
    go_wp2_with fail
    refine cA.mono ?_
    rintro e w' ⟨g, c, rfl, hc, hk⟩
    go_wp2_with fail
    go_returns
    exact ⟨g, c, rfl, hc, hk⟩
  · have hs : (55296 : Int) ≤ r := by omega
    have hs2 : ¬ r < (57344 : Int) := by omega
    go_enter Tryd.func10, Tryd.ntmps10
    go_wp2_with fail
    refine cA.mono ?_
    rintro e w' ⟨g, c, rfl, hc, hk⟩
    go_wp2_with fail
    go_returns
    exact ⟨g, c, rfl, hc, hk⟩
end Go.Proofs.YtmcemcpnhlmbhaaDoor
