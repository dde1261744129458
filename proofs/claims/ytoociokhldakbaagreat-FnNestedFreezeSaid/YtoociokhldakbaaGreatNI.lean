/- IntVal: an integer as a value. -/
import Derived.Test.YtoociokhldakbaaGreatNH
import Derived.OwnWalk
import Derived.Deep.DeepMust
import Derived.Deep.AppendLies
namespace Go.Proofs.YtoociokhldakbaaGreat
open Go.ChangeShapes Go.WideShapes Go.ChangeAt Go.RowKit
set_option linter.unusedVariables false
/-- as 'VI', the digits in a block from B on -/
def VIf (B : Nat) (w : World) (v : Value) (z : Int) : Prop :=
  ∃ A c l, v = .agg #[.int .i64 2, .bool (decide (z < 0)), .slice A l.length c, .int .u64 0, .string ⟨#[]⟩, .slice none 0 0] ∧ Sl w A c (by8 l) ∧ BE l z.natAbs ∧ Fz B A
theorem VIf.toVI {B : Nat} {w : World} {v : Value} {z : Int} (h : VIf B w v z) : VI w v z := by
  obtain ⟨A, c, l, e, hs, hl, _⟩ := h
  exact ⟨A, c, l, e, hs, hl⟩
theorem VIf.below {B : Nat} {w w' : World} {v : Value} {z : Int} (h : VIf B w v z) (hb : Kept w w') : VIf B w' v z := by
  obtain ⟨A, c, l, e, hs, hl, hf⟩ := h
  exact ⟨A, c, l, e, hs.below hb, hl, hf⟩
theorem VIf.mono {B B' : Nat} {w : World} {v : Value} {z : Int} (h : VIf B w v z) (hB : B' ≤ B) : VIf B' w v z := by
  obtain ⟨A, c, l, e, hs, hl, hf⟩ := h
  exact ⟨A, c, l, e, hs, hl, hf.mono hB⟩
theorem VIf.setRow {B : Nat} {w : World} {v : Value} {z : Int} (h : VIf B w v z) {k : Nat} (hk : k < B) (cs : Array Value) : VIf B (w.setRow k cs) v z := by
  obtain ⟨A, c, l, e, hs, hl, hf⟩ := h
  exact ⟨A, c, l, e, hs.setRow hf hk cs, hl, hf⟩
def RetVI (w : World) (z : Int) (e : Ending) (w' : World) : Prop := ∃ v, e = .returned v ∧ VIf w.heap.size w' v z ∧ Kept w w'
theorem own_slice {w : World} {B e n : Nat} {v : Value} {xs : List Value} (h : w.ownsRow B e 1 v n xs) : ∃ A c, v = .slice A n c := by
  rcases h.2 with ⟨e1, e2⟩ | ⟨g, cap, cur, e1, _⟩
  · subst e2; exact ⟨_, _, e1⟩
  · exact ⟨_, _, e1⟩
theorem info_Val : (Tryz.prog.info? 33).map (·.size) = some 6 := by kernel_rfl

set_option maxRecDepth 100000 in
set_option maxHeartbeats 1000000 in
theorem IntVal_any (v : Value) (z : Int) (hz : z.natAbs < Num.Cap) (w : World) (hv : SI w v z) :
    Calls Tryz.prog 21 #[v] w (RetVI w z) := by
  obtain ⟨A, c, l, rfl, hs, hl⟩ := hv
  obtain ⟨i0, hi0, hz0, hz1, hz2⟩ := info_parts info8
  have hlen := hl.len hz
  have W1 := (Below.refl w.heap.size w).alloc (Nat.le_refl _) (.cells #[.bool (decide (z < 0)), .slice A l.length c] 65)
  have W2 := W1.alloc (by simp) (.cells #[.int .i64 0, .bool false, .slice none 0 0, .int .u64 0, .string ⟨#[]⟩, .slice none 0 0] 33)
  have b1 : Blk ((w.alloc (.cells #[.bool (decide (z < 0)), .slice A l.length c] 65)).alloc (.cells #[.int .i64 0, .bool false, .slice none 0 0, .int .u64 0, .string ⟨#[]⟩, .slice none 0 0] 33)) w.heap.size 65 #[.bool (decide (z < 0)), .slice A l.length c] :=
    (Blk.new w _ _).below ((Below.refl _ _).alloc (Nat.le_refl _) _)
  have b2 : Blk ((w.alloc (.cells #[.bool (decide (z < 0)), .slice A l.length c] 65)).alloc (.cells #[.int .i64 0, .bool false, .slice none 0 0, .int .u64 0, .string ⟨#[]⟩, .slice none 0 0] 33)) (w.heap.size + 1) 33 #[.int .i64 0, .bool false, .slice none 0 0, .int .u64 0, .string ⟨#[]⟩, .slice none 0 0] := by
    have := Blk.new (w.alloc (.cells #[.bool (decide (z < 0)), .slice A l.length c] 65)) 33 #[.int .i64 0, .bool false, .slice none 0 0, .int .u64 0, .string ⟨#[]⟩, .slice none 0 0]
    rwa [World.size_alloc] at this
  go_enter Tryz.func21, Tryz.ntmps21
  go_wp2_with fail
  have c1 : ((w.alloc (.cells #[.bool (decide (z < 0)), .slice A l.length c] 65)).alloc (.cells #[.int .i64 0, .bool false, .slice none 0 0, .int .u64 0, .string ⟨#[]⟩, .slice none 0 0] 33)).cell? ⟨w.heap.size, 0, none⟩ = some (.bool (decide (z < 0))) := b1.cell 0
  have c2 : ((w.alloc (.cells #[.bool (decide (z < 0)), .slice A l.length c] 65)).alloc (.cells #[.int .i64 0, .bool false, .slice none 0 0, .int .u64 0, .string ⟨#[]⟩, .slice none 0 0] 33)).cell? ⟨w.heap.size, 1, none⟩ = some (.slice A l.length c) := b1.cell 1
  have hsz : ((w.alloc (.cells #[.bool (decide (z < 0)), .slice A l.length c] 65)).alloc (.cells #[.int .i64 0, .bool false, .slice none 0 0, .int .u64 0, .string ⟨#[]⟩, .slice none 0 0] 33)).heap.size = w.heap.size + 1 + 1 := by simp
  generalize ((w.alloc (.cells #[.bool (decide (z < 0)), .slice A l.length c] 65)).alloc (.cells #[.int .i64 0, .bool false, .slice none 0 0, .int .u64 0, .string ⟨#[]⟩, .slice none 0 0] 33)) = W at *
  have hown : (W.alloc (.cells #[] 5)).drew.ownsRow (w.heap.size + 1 + 1) 5 1 (.slice (some ⟨w.heap.size + 1 + 1, 0, none⟩) 0 0) 0 [] := by
    rw [← hsz]
    exact World.ownsRow_lit W #[] 0 (Nat.le_refl _) (Nat.zero_le _) rfl
  have hs' : Sl (W.alloc (.cells #[] 5)).drew A c (by8 l) := (hs.below W2).below (Below.drew ((Below.refl _ _).alloc (Nat.le_refl _) _))
  have l1 : w.heap.size < W.heap.size := by omega
  have l2 : w.heap.size + 1 < W.heap.size := by omega
  have d1 : (W.alloc (.cells #[] 5)).drew.cell? ⟨w.heap.size, 0, none⟩ = some (.bool (decide (z < 0))) := (World.cell?_of_block (heap_alloc_old W _ l1)).trans c1
  have d2 : (W.alloc (.cells #[] 5)).drew.cell? ⟨w.heap.size, 1, none⟩ = some (.slice A l.length c) := (World.cell?_of_block (heap_alloc_old W _ l1)).trans c2
  have b2' : (W.alloc (.cells #[] 5)).drew.heap[w.heap.size + 1]? = some (.cells #[.int .i64 0, .bool false, .slice none 0 0, .int .u64 0, .string ⟨#[]⟩, .slice none 0 0] 33 (0, 0)) := (heap_alloc_old W _ l2).trans b2
  go_region_held3 (fun X : World => X.cell? ⟨w.heap.size, 0, none⟩ = some (.bool (decide (z < 0))) ∧ X.cell? ⟨w.heap.size, 1, none⟩ = some (.slice A l.length c))
    (first
      | exact ⟨c1, c2⟩
      | exact ⟨d1, d2⟩
      | exact ⟨e1, e2⟩
      | exact ⟨(cell_setRow_other _ _ _ _ (by simp)).trans e1, (cell_setRow_other _ _ _ _ (by simp)).trans e2⟩)
    (first
      | (
          refine step_append_sl rfl (.tmp 5) (.tmp 7) 29 rfl (w.heap.size + 1 + 1) 5 i0 _ _ Tryz.underlying29 hi0 hz0 hz1 hz2 rfl _ 0 [] rfl hown A l.length c (by8 l) rfl (by8_len l) hs' (by8_one l) (by unfold maxLen; omega) (by omega) (by show _ ≤ (W.alloc (.cells #[] 5)).heap.size; simp only [World.size_alloc]; omega) ?_
          intro v' w' h2 h3
          rw [Nat.zero_add, List.nil_append] at h2
          obtain ⟨A1, k1, rfl⟩ := own_slice h2
          have e1 : w'.cell? ⟨w.heap.size, 0, none⟩ = some (.bool (decide (z < 0))) := h3.cell d1 (by simp only [Value.ownBlock]; intro h; injection h with h; simp only at h; omega)
          have e2 : w'.cell? ⟨w.heap.size, 1, none⟩ = some (.slice A l.length c) := h3.cell d2 (by simp only [Value.ownBlock]; intro h; injection h with h; simp only at h; omega)
          have B2 : Blk w' (w.heap.size + 1) 33 #[.int .i64 0, .bool false, .slice none 0 0, .int .u64 0, .string ⟨#[]⟩, .slice none 0 0] := (h3.block _ (by show _ < (W.alloc (.cells #[] 5)).heap.size; simp only [World.size_alloc]; omega) (by simp only [Value.ownBlock]; intro h; injection h with h; simp only at h; omega)).trans b2'
          have hst := run_storeVar_row (P := Tryz.prog) w' (w.heap.size + 1) 33 33 _ #[.int .i64 2, .bool (decide (z < 0)), .slice A1 l.length k1, .int .u64 0, .string ⟨#[]⟩, .slice none 0 0] B2 info_Val rfl (by simp [Value.oneCell'])
          simp [go_sem] at hst)
      | fail)
  go_wp2_with fail
  refine bodyPost_blk (cs := #[.int .i64 2, .bool (decide (z < 0)), .slice A1 l.length k1, .int .u64 0, .string ⟨#[]⟩, .slice none 0 0]) rfl rfl (setRow_heap _ _ _ _ _ _ B2) Tryz.underlying33 rfl (by exact info_Val) rfl ?_
  have hsl := Sl.of_own h2
  have hfz : Fz (w.heap.size + 1 + 1) A1 := fun b off e => (h2.lt b (by rw [e]; rfl)).1
  have hkw : Kept w w' := by
    refine Below.grown (w := (W.alloc (.cells #[] 5)).drew) (W2.drew.alloc ?_ _) h3 ?_ ?_
    · show w.heap.size ≤ W.heap.size; omega
    · show _ ≤ (W.alloc (.cells #[] 5)).heap.size; simp only [World.size_alloc]; omega
    · intro k e; cases e; simp only; omega
  refine ⟨_, rfl, ⟨A1, k1, l, rfl, ?_, hl, hfz.mono (by omega)⟩, below_setRow hkw (by omega) _⟩
  exact hsl.1.setRow hfz (by omega) _
end Go.Proofs.YtoociokhldakbaaGreat
