/- The law of a position walked. -/
import Derived.Test.YtkodcbddlgadaaaDoorRRows
import Derived.Test.YtkodcbddlgadaaaDoorRSh
import Derived.WalkKit
import Derived.ProofKit
import Derived.Outline
import Derived.Handy
import Derived.WalkLawsBesides
import Derived.WalkSpells
import Derived.Deep.QuietTactic
import Derived.Deep.RegionWith
import Derived.Deep.RegionHeld3
import Derived.BigQuiet
import Derived.Lib.Hide
import Derived.Laws.CopyOwn
import Derived.Lib.OthersKept
import Derived.Deep.Upon
import Derived.Lib.SmallJoins
import Derived.Lib.ItoaLen
import Derived.Deep.OwnRows
namespace Go.Proofs.YtkodcbddlgadaaaDoorR
open Go.ChangeShapes Go.WideShapes Go.ChangeAt Go.RowKit
set_option linter.unusedVariables false
abbrev Kept (w w' : World) : Prop := Below w.heap.size w w'
theorem Kept.trans {a b c : World} (h : Kept a b) (k : Kept b c) : Kept a c := Below.trans h (k.mono h.size)
abbrev Tab (w : World) : Prop := Lib.TabIs Tryd.prog w "internal/strconv.uint64pow10" .u64 Lib.pow10Tab
theorem gPow : Tryd.prog.globalNamed "internal/strconv.uint64pow10" = some 6 := by kernel_rfl
theorem kept_grow (w : World) (k : Nat) (os : Array Obj) : Kept w (Go.Sort.grow (w.drewN k) os) := by
  refine ⟨rfl, rfl, rfl, ?_, fun i hi => ?_⟩
  · simp [Go.Sort.grow]
  · simp [Go.Sort.grow, Array.getElem?_append, hi]
set_option maxRecDepth 100000 in
theorem MakePosition_any (p : Option Addr) (l c : Int) (w : World) :
    Calls Tryd.prog 8 #[.pointer p, .int .i32 l, .int .i32 c] w fun e w' => e = .returned (.agg #[.pointer p, .int .i32 l, .int .i32 c]) ∧ Kept w w' := by
  go_enter Tryd.func8, Tryd.ntmps8
  go_wp2
  go_returns
  exact ⟨rfl, by go_grown⟩
set_option maxRecDepth 100000 in
theorem IsValid_any (a : Addr) (l c : Int) (w : World) :
    Calls Tryd.prog 10 #[.agg #[.pointer (some a), .int .i32 l, .int .i32 c]] w fun e w' => e = .returned (.bool true) ∧ Kept w w' := by
  go_enter Tryd.func10, Tryd.ntmps10
  go_wp2
  go_ret
  exact ⟨rfl, by go_grown⟩
set_option maxRecDepth 100000 in
theorem Filename_any (g : Nat) (S : ByteArray) (l c : Int) (w : World) (hg : w.cell? ⟨g, 0, none⟩ = some (.string S)) :
    Calls Tryd.prog 11 #[.agg #[.pointer (some ⟨g, 0, none⟩), .int .i32 l, .int .i32 c]] w fun e w' => e = .returned (.string S) ∧ Kept w w' := by
  have h1 : (w.alloc (.cells #[.pointer (some ⟨g, 0, none⟩), .int .i32 l, .int .i32 c] 31)).cell? ⟨g, 0, none⟩ = some (.string S) := (((Below.refl w.heap.size w).alloc (Nat.le_refl _) _).cell (p := ⟨g, 0, none⟩) (block_lt_of_cell hg)).trans hg
  go_enter Tryd.func11, Tryd.ntmps11
  go_wp2
  go_ret
  exact ⟨rfl, by go_grown⟩
theorem Itoa_any (n : Int) (h0 : -2147483648 ≤ n) (h1 : n ≤ 2147483647) (w : World) (ht : Tab w) :
    Calls Tryd.prog 14 #[.int .i64 n] w fun e w' => (∃ s : ByteArray, e = .returned (.string s) ∧ s.size ≤ 21) ∧ Kept w w' := by
  refine (Tryd.strconv_Itoa n (by omega) (by omega) w ht).mono ?_
  rintro e w' ⟨rfl, k, os, rfl⟩
  exact ⟨⟨_, rfl, by have := Lib.itoa_length_le n (by omega) (by omega); simpa [ByteArray.size] using this⟩, kept_grow _ _ _⟩
theorem Tab.below {w w' : World} (h : Tab w) (hb : Kept w w') : Tab w' := Go.Joins.tab_stays gPow h hb (Nat.le_refl _)
set_option maxRecDepth 100000 in
set_option maxHeartbeats 1000000 in
theorem String_any (g : Nat) (S : ByteArray) (l c : Int) (w : World) (hg : w.cell? ⟨g, 0, none⟩ = some (.string S)) (ht : Tab w) (hl : l ≤ 2147483647) (hc : c ≤ 2147483647) (hS : S.size ≤ 2147483647) :
    Calls Tryd.prog 9 #[.agg #[.pointer (some ⟨g, 0, none⟩), .int .i32 l, .int .i32 c]] w fun e w' => (∃ s, e = .returned (.string s)) ∧ Kept w w' := by
  have hk0 := (Below.refl w.heap.size w).alloc (Nat.le_refl _) (.cells #[.pointer (some ⟨g, 0, none⟩), .int .i32 l, .int .i32 c] 31)
  have hg0 : (w.alloc (.cells #[.pointer (some ⟨g, 0, none⟩), .int .i32 l, .int .i32 c] 31)).cell? ⟨g, 0, none⟩ = some (.string S) := (hk0.cell (p := ⟨g, 0, none⟩) (block_lt_of_cell hg)).trans hg
  have ht0 := ht.below hk0
  have hb0 : (w.alloc (.cells #[.pointer (some ⟨g, 0, none⟩), .int .i32 l, .int .i32 c] 31)).heap[w.heap.size]? = some (.cells #[.pointer (some ⟨g, 0, none⟩), .int .i32 l, .int .i32 c] 31 (0, 0)) := heap_alloc_new w _
  have HF := Lib.hid (Filename_any g S l c _ hg0)
  have HT0 := Lib.hid ht0
  have HB0 := Lib.hid hb0
  clear hg0 ht0 hb0
  by_cases h1 : (0 : Int) < l
  · by_cases h2 : (0 : Int) < c
    · have hwl : IntKind.i64.wrap l = l := by rw [IntKind.wrap_i64]; omega
      have hwc : IntKind.i64.wrap c = c := by rw [IntKind.wrap_i64]; omega
      go_enter Tryd.func9, Tryd.ntmps9
      go_wp2_with fail
      refine (HF.out).mono ?_
      rintro e w1 ⟨rfl, hk1⟩
      have hk : Kept w w1 := hk0.trans (hk1.mono hk0.size)
      have ht1 := HT0.out.below hk1
      have hb1 : w1.heap[w.heap.size]? = some (.cells #[.pointer (some ⟨g, 0, none⟩), .int .i32 l, .int .i32 c] 31 (0, 0)) := (hk1.block _ (by simp)).trans HB0.out
      have c1 : w1.cell? ⟨w.heap.size, 1, none⟩ = some (.int .i32 l) := cell_of_row w1 _ 1 _ _ (0, 0) hb1
      have c2 : w1.cell? ⟨w.heap.size, 2, none⟩ = some (.int .i32 c) := cell_of_row w1 _ 2 _ _ (0, 0) hb1
      have hlt : w.heap.size < w1.heap.size := (Array.getElem?_eq_some_iff.1 hb1).1
      have HT1 := Lib.hid ht1
      clear HF HT0 HB0 hb1 ht1 hk1 hk0 hg ht
      go_wp2_with fail
      have n1 : ¬ (9223372036854775807 < S.size + 1) := by omega
      go_region_held3 (fun X : World => X.cell? ⟨w.heap.size, 1, none⟩ = some (.int .i32 l) ∧ X.cell? ⟨w.heap.size, 2, none⟩ = some (.int .i32 c))
        (first | exact ⟨c1, c2⟩ | exact ⟨(hk2.cell (p := ⟨w.heap.size, 1, none⟩) hlt).trans c1, (hk2.cell (p := ⟨w.heap.size, 2, none⟩) hlt).trans c2⟩ | exact ⟨(hk3.cell (p := ⟨w.heap.size, 1, none⟩) hlt).trans c1, (hk3.cell (p := ⟨w.heap.size, 2, none⟩) hlt).trans c2⟩)
        (first
          | (go_at_call 14
             refine (Itoa_any l (by omega) (by omega) _ (HT1.out.below (Below.drew (Below.refl _ _)))).mono ?_
             rintro e w2 ⟨⟨s2, rfl, z2⟩, hk2'⟩
             have hk2 : Kept w1 w2 := Below.trans (Below.drew (Below.refl _ _)) hk2'
             have n2 : ¬ (9223372036854775807 < S.size + 1 + s2.size) := by omega
             have n3 : ¬ (9223372036854775807 < S.size + 1 + s2.size + 1) := by omega
             clear hk2')
          | (go_at_call 14
             refine (Itoa_any c (by omega) (by omega) _ (HT1.out.below hk2)).mono ?_
             rintro e w3 ⟨⟨s3, rfl, z3⟩, hk3'⟩
             have hk3 : Kept w1 w3 := Below.trans hk2 (hk3'.mono hk2.size)
             have n4 : ¬ (9223372036854775807 < S.size + 1 + s2.size + 1 + s3.size) := by omega
             clear hk3')
          | fail)
      all_goals go_wp2_with fail
      all_goals go_ret
      all_goals exact ⟨⟨_, rfl⟩, hk.trans hk3⟩
    · have hwl : IntKind.i64.wrap l = l := by rw [IntKind.wrap_i64]; omega
      go_enter Tryd.func9, Tryd.ntmps9
      go_wp2_with fail
      refine (HF.out).mono ?_
      rintro e w1 ⟨rfl, hk1⟩
      have hk : Kept w w1 := hk0.trans (hk1.mono hk0.size)
      have ht1 := HT0.out.below hk1
      have hb1 : w1.heap[w.heap.size]? = some (.cells #[.pointer (some ⟨g, 0, none⟩), .int .i32 l, .int .i32 c] 31 (0, 0)) := (hk1.block _ (by simp)).trans HB0.out
      have c1 : w1.cell? ⟨w.heap.size, 1, none⟩ = some (.int .i32 l) := cell_of_row w1 _ 1 _ _ (0, 0) hb1
      have c2 : w1.cell? ⟨w.heap.size, 2, none⟩ = some (.int .i32 c) := cell_of_row w1 _ 2 _ _ (0, 0) hb1
      have HT1 := Lib.hid ht1
      clear HF HT0 HB0 hb1 ht1 hk1 hk0 hg ht
      go_wp2_with fail
      refine (Itoa_any l (by omega) (by omega) _ HT1.out).mono ?_
      rintro e w2 ⟨⟨s2, rfl, z2⟩, hk2⟩
      go_wp2_with fail
      go_ret
      exact ⟨⟨_, rfl⟩, hk.trans hk2⟩
  · go_enter Tryd.func9, Tryd.ntmps9
    go_wp2_with fail
    refine (HF.out).mono ?_
    rintro e w1 ⟨rfl, hk1⟩
    have hk : Kept w w1 := hk0.trans (hk1.mono hk0.size)
    have hb1 : w1.heap[w.heap.size]? = some (.cells #[.pointer (some ⟨g, 0, none⟩), .int .i32 l, .int .i32 c] 31 (0, 0)) := (hk1.block _ (by simp)).trans HB0.out
    have c1 : w1.cell? ⟨w.heap.size, 1, none⟩ = some (.int .i32 l) := cell_of_row w1 _ 1 _ _ (0, 0) hb1
    clear HF HT0 HB0 hb1 hk1 hk0 hg ht
    go_wp2_with fail
    go_ret
    exact ⟨⟨_, rfl⟩, hk⟩
set_option maxRecDepth 100000 in
set_option maxHeartbeats 1000000 in
theorem PositionText_any (S : ByteArray) (l c : Int) (w : World) (ht : Tab w) (hl : l ≤ 2147483647) (hc : c ≤ 2147483647) (hS : S.size ≤ 2147483647) :
    Calls Tryd.prog 5 #[.string S, .int .i32 l, .int .i32 c] w fun e w' => (∃ s, e = .returned (.tuple #[.string s, .bool true, .string S])) ∧ Kept w w' := by
  have hk0 := (Below.refl w.heap.size w).alloc (Nat.le_refl _) (.cells #[.string S] 9)
  have hb0 : (w.alloc (.cells #[.string S] 9)).heap[w.heap.size]? = some (.cells #[.string S] 9 (0, 0)) := heap_alloc_new w _
  have HT := Lib.hid (ht.below hk0)
  go_enter Tryd.func5, Tryd.ntmps5
  go_wp2_with fail
  refine (MakePosition_any (some ⟨w.heap.size, 0, none⟩) l c _).mono ?_
  rintro e w1 ⟨rfl, hk1⟩
  have hb1 : w1.heap[w.heap.size]? = some (.cells #[.string S] 9 (0, 0)) := (hk1.block _ (by simp)).trans hb0
  have ht1 := HT.out.below hk1
  have hk : Kept w w1 := hk0.trans (hk1.mono hk0.size)
  clear HT hb0 hk0 hk1 ht
  go_wp2_with fail
  have hk2 := (Below.refl w1.heap.size w1).alloc (Nat.le_refl _) (.cells #[.pointer (some ⟨w.heap.size, 0, none⟩), .int .i32 l, .int .i32 c] 31)
  have hkk : Kept w (w1.alloc (.cells #[.pointer (some ⟨w.heap.size, 0, none⟩), .int .i32 l, .int .i32 c] 31)) := hk.trans hk2
  have HT2 := Lib.hid (ht1.below hk2)
  have hlt0 : w.heap.size < w1.heap.size := (Array.getElem?_eq_some_iff.1 hb1).1
  have g0 : (w1.alloc (.cells #[.pointer (some ⟨w.heap.size, 0, none⟩), .int .i32 l, .int .i32 c] 31)).cell? ⟨w.heap.size, 0, none⟩ = some (.string S) :=
    (hk2.cell (p := ⟨w.heap.size, 0, none⟩) hlt0).trans (cell_of_row w1 _ 0 _ _ (0, 0) hb1)
  have hp := heap_alloc_new w1 (.cells #[.pointer (some ⟨w.heap.size, 0, none⟩), .int .i32 l, .int .i32 c] 31)
  have hsz : (w1.alloc (.cells #[.pointer (some ⟨w.heap.size, 0, none⟩), .int .i32 l, .int .i32 c] 31)).heap.size = w1.heap.size + 1 := World.size_alloc _ _
  clear hk2
  generalize (w1.alloc (.cells #[.pointer (some ⟨w.heap.size, 0, none⟩), .int .i32 l, .int .i32 c] 31)) = W at *
  have c0 : W.cell? ⟨w1.heap.size, 0, none⟩ = some (.pointer (some ⟨w.heap.size, 0, none⟩)) := cell_of_row W _ 0 _ _ (0, 0) hp
  have c1 : W.cell? ⟨w1.heap.size, 1, none⟩ = some (.int .i32 l) := cell_of_row W _ 1 _ _ (0, 0) hp
  have c2 : W.cell? ⟨w1.heap.size, 2, none⟩ = some (.int .i32 c) := cell_of_row W _ 2 _ _ (0, 0) hp
  have hl1 : w1.heap.size < W.heap.size := by omega
  have hl0 : w.heap.size < W.heap.size := by omega
  have KEEP : Hid (∀ X : World, Kept W X → X.cell? ⟨w1.heap.size, 0, none⟩ = some (.pointer (some ⟨w.heap.size, 0, none⟩)) ∧ X.cell? ⟨w1.heap.size, 1, none⟩ = some (.int .i32 l) ∧ X.cell? ⟨w1.heap.size, 2, none⟩ = some (.int .i32 c)) :=
    Lib.hid fun X h => ⟨(h.cell hl1).trans c0, (h.cell hl1).trans c1, (h.cell hl1).trans c2⟩
  have G0 : Hid (∀ X : World, Kept W X → X.cell? ⟨w.heap.size, 0, none⟩ = some (.string S)) := Lib.hid fun X h => (h.cell (p := ⟨w.heap.size, 0, none⟩) hl0).trans g0
  have k0 : Kept W W.drew := Below.drew (Below.refl _ _)
  clear g0 hb1 ht1 hp
  go_region_held3 (fun X : World => X.cell? ⟨w1.heap.size, 0, none⟩ = some (.pointer (some ⟨w.heap.size, 0, none⟩)) ∧ X.cell? ⟨w1.heap.size, 1, none⟩ = some (.int .i32 l) ∧ X.cell? ⟨w1.heap.size, 2, none⟩ = some (.int .i32 c))
    (first | exact KEEP.out _ k0 | exact KEEP.out _ k1 | exact KEEP.out _ k2 | exact KEEP.out _ k3)
    (first
      | (go_at_call 9
         refine (String_any w.heap.size S l c _ (G0.out _ k0) (HT2.out.below k0) hl hc hS).mono ?_
         rintro e w2 ⟨⟨s2, rfl⟩, k1'⟩
         have k1 : Kept W w2 := k0.trans k1'
         clear k1')
      | (go_at_call 10
         refine (IsValid_any _ l c _).mono ?_
         rintro e w3 ⟨rfl, k2'⟩
         have k2 : Kept W w3 := k1.trans k2'
         clear k2')
      | (go_at_call 11
         refine (Filename_any w.heap.size S l c _ (G0.out _ k2)).mono ?_
         rintro e w4 ⟨rfl, k3'⟩
         have k3 : Kept W w4 := k2.trans k3'
         clear k3')
      | fail)
  go_wp2_with fail
  exact bodyPost_ret (results_tmp3 rfl _ _ _) rfl ⟨⟨_, rfl⟩, hkk.trans k3⟩
set_option maxRecDepth 100000 in
theorem FnPosition_any (S : ByteArray) (l c : Int) (w : World) (ht : Tab w) (hl : l ≤ 2147483647) (hc : c ≤ 2147483647) :
    Calls Tryd.prog 3 #[.string S, .int .i32 l, .int .i32 c] w fun e w' => e = .returned (.bool true) ∧ Kept w w' := by
  by_cases hS : S.size ≤ 2147483647
  · have hq : ¬ (2147483647 : Int) < (S.size : Int) := by omega
    have HP := Lib.hid (PositionText_any S l c w ht hl hc hS)
    clear ht
    by_cases h1 : l < 1
    · go_enter Tryd.func3, Tryd.ntmps3
      go_wp2_with fail
      refine (HP.out).mono ?_
      rintro e w1 ⟨⟨s, rfl⟩, hk⟩
      go_wp2_with fail
      go_ret
      exact ⟨rfl, hk⟩
    · go_enter Tryd.func3, Tryd.ntmps3
      go_wp2_with fail
      refine (HP.out).mono ?_
      rintro e w1 ⟨⟨s, rfl⟩, hk⟩
      go_wp2_with fail
      go_ret
      exact ⟨rfl, hk⟩
  · have hq : (2147483647 : Int) < (S.size : Int) := by omega
    go_enter Tryd.func3, Tryd.ntmps3
    go_wp2_with fail
    go_ret
    exact ⟨rfl, Below.refl _ _⟩
end Go.Proofs.YtkodcbddlgadaaaDoorR
