/- A row of words copied; a float's exponent set. -/
import Derived.Test.YtnheiigdgklbcaaF7
import Derived.Test.YtnheiigdgklbcaaF8
import Derived.Deep.RegionHeld3
namespace Go.Proofs.Ytnheiigdgklbcaa
open Go.ChangeShapes Go.WideShapes Go.ChangeAt Go.RowKit
set_option linter.unusedVariables false
theorem kept_set {w0 w : World} {g : Nat} (h : Kept w0 w) (hg : w0.heap.size ≤ g) (i : Nat) (u : Value) : Kept w0 (w.setCell ⟨g, i, none⟩ u) := ((Two.refl g g w).set1 i u).kept h hg hg
/-- a copy of n words in a row of the call's own -/
def CopyP (w : World) (n X : Nat) (e : Ending) (w' : World) : Prop := ∃ cap, e = .returned (.slice (some ⟨w.heap.size, 0, none⟩) n cap) ∧ n ≤ cap ∧ cap ≤ n + 4 ∧ Rw w' w.heap.size cap n X ∧ Kept w w'
set_option maxRecDepth 100000 in
theorem set_own (sb so n sc X : Nat) (hn : 0 < n) (hn2 : n ≤ 100000) (w : World) (hc : ∀ j, j < n → w.cell? ⟨sb, so + j, none⟩ = some (.int .u64 ((Num.dg Num.B64 X j : Nat) : Int))) :
    Calls Try.prog 56 #[.slice none 0 0, .slice (some ⟨sb, so, none⟩) n sc] w (CopyP w n X) := by
  have HM := Lib.hid (make_nil n (by omega) w)
  have HC := Lib.hid hc
  have hnI : (n : Int) ≤ 100000 := by omega
  have HN := Lib.hid hn
  clear hc hn hn2
  go_enter Try.func56, Try.ntmps56
  go_wp2_with fail
  refine (HM.out).mono ?_
  rintro e w1 (⟨h0, rfl, rfl⟩ | ⟨h0, cap, hc1, hc2, rfl, hrow, hbw⟩)
  · exact absurd h0 (by have := HN.out; omega)
  · have hc3 : ∀ j, j < n → w1.cell? ⟨sb, so + j, none⟩ = some (.int .u64 ((Num.dg Num.B64 X j : Nat) : Int)) := fun j hj => by
      have h := HC.out j hj
      exact (hbw.cell (block_lt_of_cell h)).trans h
    have HC3 := Lib.hid hc3
    have HROW := Lib.hid hrow
    have HBW := Lib.hid hbw
    have HC1 := Lib.hid hc1
    have HC2 := Lib.hid hc2
    clear hc3 hrow hbw HC h0 hc1 hc2
    go_wp2_with (refine wpList_copy_row rfl (.tmp 9) (.tmp 10) _ _ rfl 100 Try.underlying57 size_word _ _ _ _ _ _ rfl rfl w.heap.size 0 n cap 100 _ (fun j => .int .u64 ((Num.dg Num.B64 X j : Nat) : Int)) HROW.out (Nat.min_self n).symm (fun _ => ⟨rfl, sb, so, rfl, HC3.out⟩) (by have := HC1.out; omega) (fun _ _ => rfl) ?_; intro w2 hr2 hg2; have HR2 := Lib.hid hr2; have HG2 := Lib.hid hg2; clear hr2 hg2)
    go_ret
    refine ⟨cap, rfl, HC1.out, HC2.out, ⟨_, HR2.out, fun j hj => ?_⟩, kept_of_only HBW.out HG2.out (Nat.le_refl _) HBW.out.size⟩
    rw [if_pos (by omega)]
    rfl
set_option maxRecDepth 100000 in
set_option maxHeartbeats 2000000 in
theorem setExp_any (g gr cap W N s n : Nat) (pr : Int) (hs : s < 64) (hpr : (pr = 64 * (W : Int) + 64 - (s : Int) ∨ (W = 0 ∧ pr = 64))) (hn : n ≤ 100000) (ng : Bool) (ac fo ex : Int) (hne : g ≠ gr) (hW : W + 1 ≤ cap) (hcap : cap ≤ 1000000) (w : World)
    (hf : FB w g pr ac fo ng (.slice (some ⟨gr, 0, none⟩) (W + 1) cap) ex) (hr : Rw w gr cap (W + 1) (N * 2 ^ s)) :
    Calls Try.prog 58 #[.pointer (some ⟨g, 0, none⟩), .int .i64 (n : Int), .int .u64 0] w (SameP w g gr cap (W + 1) (N * 2 ^ s) pr ng (n : Int)) := by
  obtain ⟨c0, c1, c2, c3, c4, c5, c6⟩ := hf.cells
  have fz3 := Blk.frozen hf 3
  have hf1 := hf.form 1
  obtain ⟨d0, d1, d2, d3, d4, d5, d6⟩ := hf1.cells
  have fz6 := Blk.frozen hf1 6
  have hf2 := hf1.exp (n : Int)
  have hr1 := (hr.far (set_grown w g 3 (.int .u8 1)) (fun e => hne e.symm)).far (set_grown _ g 6 (.int .i32 (n : Int))) (fun e => hne e.symm)
  have ht := ((Two.refl g gr w).set1 3 (.int .u8 1)).set1 6 (.int .i32 (n : Int))
  have hnI : (n : Int) ≤ 100000 := by omega
  have w1 : IntKind.i32.wrap (n : Int) = (n : Int) := by rw [IntKind.wrap_i32]; omega
  have hk : Hid (Calls Try.prog 70 #[.pointer (some ⟨g, 0, none⟩), .int .u64 0] ((w.setCell ⟨g, 3, none⟩ (.int .u8 1)).setCell ⟨g, 6, none⟩ (.int .i32 (n : Int))) (SameP w g gr cap (W + 1) (N * 2 ^ s) pr ng (n : Int))) :=
    Lib.hid ((round_same g gr cap W N s pr hs hpr ng ac n hne hW hcap _ hf2 hr1).mono fun e w' ⟨h1, h2, h3, h4⟩ => ⟨h1, h2, h3, ht.trans h4⟩)
  have g1 : ¬ (n : Int) < -2147483648 := by omega
  have g2 : ¬ (2147483647 : Int) < (n : Int) := by omega
  clear hf hf1 hf2 hr hr1 ht hpr hs hW hcap hn
  go_enter Try.func58, Try.ntmps58
  go_wp2_with fail
  (with_reducible refine Calls.mono hk.out ?_)
  rintro e w2 ⟨rfl, h2, h3, h4⟩
  go_wp2_with fail
  go_end0
  exact ⟨rfl, h2, h3, h4⟩
end Go.Proofs.Ytnheiigdgklbcaa
