/- The lists that a call owns; a value appended to one of them. -/
import Derived.Test.YtoociokhldakbaaGreatN6
namespace Go.Proofs.YtoociokhldakbaaGreat
open Go.ChangeShapes Go.WideShapes Go.ChangeAt Go.RowKit
set_option linter.unusedVariables false
/-- the lists of the package that a call owns: list i in block b (bl i = some b), its row S i reads as xs i; F: which are frozen; no row touches a block of P -/
structure LS (w : World) (B n : Nat) (bl : Nat → Option Nat) (P : Nat → Prop) (F : Nat → Bool) (S : Nat → Value) (xs : Nat → List Value) : Prop where
  blk : ∀ i, i < n → ∀ b, bl i = some b → Blk w b 85 #[S i, .bool (F i), .int .u32 0]
  own : ∀ i, i < n → ∀ b, bl i = some b → w.ownsRow B 52 1 (S i) (xs i).length (xs i)
  low : ∀ i, i < n → ∀ b, bl i = some b → B ≤ b ∧ ¬ P b
  inj : ∀ i, i < n → ∀ j, j < n → ∀ b, bl i = some b → bl j = some b → i = j
  row : ∀ i, i < n → ∀ b, bl i = some b → ∀ g, (S i).ownBlock = some g → ¬ P g ∧ g < w.heap.size ∧ (∀ j, j < n → bl j ≠ some g) ∧ ∀ j, j < n → j ≠ i → ∀ b', bl j = some b' → (S j).ownBlock ≠ some g
  psz : ∀ g, P g → g < w.heap.size
/-- nothing below B and nothing of P has changed -/
structure PK (B : Nat) (P : Nat → Prop) (w w' : World) : Prop where
  os : w'.os = w.os
  tape : w'.tape = w.tape
  output : w'.output = w.output
  size : w.heap.size ≤ w'.heap.size
  block : ∀ g, g < w.heap.size → (P g ∨ g < B) → w'.heap[g]? = w.heap[g]?
theorem PK.refl (B : Nat) (P : Nat → Prop) (w : World) : PK B P w w := ⟨rfl, rfl, rfl, Nat.le_refl _, fun _ _ _ => rfl⟩
theorem PK.trans {B : Nat} {P : Nat → Prop} {a b c : World} (h : PK B P a b) (k : PK B P b c) : PK B P a c :=
  ⟨k.os.trans h.os, k.tape.trans h.tape, k.output.trans h.output, Nat.le_trans h.size k.size, fun g hg hp => (k.block g (Nat.lt_of_lt_of_le hg h.size) hp).trans (h.block g hg hp)⟩
theorem PK.of_kept {B : Nat} {P : Nat → Prop} {w w' : World} (h : Kept w w') : PK B P w w' := ⟨h.os, h.tape, h.output, h.size, fun g hg _ => h.block g hg⟩
theorem PK.kept {B : Nat} {P : Nat → Prop} {w0 w w' : World} (h : PK B P w w') (hk : Kept w0 w) (hB : w0.heap.size ≤ B) : Kept w0 w' :=
  ⟨h.os.trans hk.os, h.tape.trans hk.tape, h.output.trans hk.output, Nat.le_trans hk.size h.size, fun g hg => (h.block g (Nat.lt_of_lt_of_le hg hk.size) (.inr (by omega))).trans (hk.block g hg)⟩
theorem LS.below {w w' : World} {B n : Nat} {bl : Nat → Option Nat} {P : Nat → Prop} {F : Nat → Bool} {S : Nat → Value} {xs : Nat → List Value} (h : LS w B n bl P F S xs) (hk : Kept w w') : LS w' B n bl P F S xs :=
  ⟨fun i hi b hb => Blk.below (h.blk i hi b hb) hk, fun i hi b hb => (h.own i hi b hb).kept (only_of_kept hk none) (by cases (S i).ownBlock with | none => exact .inl rfl | some g => exact .inr (by simp)), h.low, h.inj,
    fun i hi b hb g hg => ⟨(h.row i hi b hb g hg).1, Nat.lt_of_lt_of_le (h.row i hi b hb g hg).2.1 hk.size, (h.row i hi b hb g hg).2.2⟩, fun g hg => Nat.lt_of_lt_of_le (h.psz g hg) hk.size⟩
/-- a value appended to list i, which is not frozen -/
theorem LS.append {w w' : World} {B n : Nat} {bl : Nat → Option Nat} {P : Nat → Prop} {F : Nat → Bool} {S : Nat → Value} {xs : Nat → List Value} (h : LS w B n bl P F S xs) {i : Nat} (hi : i < n) {b : Nat} (hb : bl i = some b) (hF : F i = false) {v : Value} {e : Ending}
    (ha : AppP w b (S i) (xs i).length (xs i) v B e w') :
    e = .returned .nilIface ∧ (∃ S', LS w' B n bl P F S' (fun j => if j = i then xs i ++ [v] else xs j)) ∧ PK B P w w' := by
  obtain ⟨he, ⟨g, cap, hbk, how, hat, hgb, hgl⟩, h1, h2, h3, h4, h5⟩ := ha
  have hbl := h.low i hi b hb
  have hblt := (h.blk i hi b hb).lt
  have hSlow : ∀ gg, (S i).ownBlock = some gg → B ≤ gg := fun gg hg => by
    rcases (h.own i hi b hb).2 with ⟨e1, _⟩ | ⟨g', cap', cur, e1, hB', _⟩
    · rw [e1] at hg; cases hg
    · rw [e1] at hg
      have : g' = gg := by simpa [Value.ownBlock] using hg
      omega
  have same : ∀ k, k < w.heap.size → k ≠ b → (S i).ownBlock ≠ some k → w'.heap[k]? = w.heap[k]? := h5
  have hgS : ∀ j, j < n → j ≠ i → ∀ b', bl j = some b' → ∀ g', (S j).ownBlock = some g' → g' ≠ b ∧ (S i).ownBlock ≠ some g' ∧ g' < w.heap.size := fun j hj hji b' hb' g' hg' => by
    have hr := h.row j hj b' hb' g' hg'
    exact ⟨fun e => hr.2.2.1 i hi (by rw [hb, e]), hr.2.2.2 i hi (fun e => hji e.symm) b hb, hr.2.1⟩
  have hnew : ¬ P g ∧ (∀ j, j < n → bl j ≠ some g) ∧ ∀ j, j < n → j ≠ i → ∀ b', bl j = some b' → (S j).ownBlock ≠ some g := by
    rcases hat with hat | hat
    · have hr := h.row i hi b hb g hat
      exact ⟨hr.1, hr.2.2.1, hr.2.2.2⟩
    · refine ⟨fun hp => ?_, fun j hj e => ?_, fun j hj hji b' hb' e => ?_⟩
      · have := h.psz g hp; omega
      · have := (h.blk j hj g e).lt; omega
      · have := (h.row j hj b' hb' g e).2.1; omega
  refine ⟨he, ⟨fun j => if j = i then .slice (some ⟨g, 0, none⟩) ((xs i).length + 1) cap else S j, fun j hj b' hb' => ?_, fun j hj b' hb' => ?_, h.low, h.inj, fun j hj b' hb' g' hg' => ?_, fun g' hp => Nat.lt_of_lt_of_le (h.psz g' hp) h4⟩, ⟨h1, h2, h3, h4, fun k hk hp => ?_⟩⟩
  · by_cases e : j = i
    · subst e
      rw [hb] at hb'
      injection hb' with hb'
      subst hb'
      show Blk w' _ _ #[if j = j then _ else S j, .bool (F j), _]
      rw [if_pos rfl, hF]
      exact hbk
    · show Blk w' _ _ #[if j = i then _ else S j, .bool (F j), _]
      rw [if_neg e]
      refine (same b' (h.blk j hj b' hb').lt (fun e2 => e (h.inj j hj i hi b' hb' (by rw [hb, e2]))) (fun e2 => ?_)).trans (h.blk j hj b' hb')
      exact (h.row i hi b hb b' e2).2.2.1 j hj hb'
  · by_cases e : j = i
    · subst e
      show w'.ownsRow B _ 1 (if j = j then _ else S j) (if j = j then _ else xs j).length (if j = j then _ else xs j)
      rw [if_pos rfl, if_pos rfl, List.length_append]
      exact how
    · show w'.ownsRow B _ 1 (if j = i then _ else S j) (if j = i then _ else xs j).length (if j = i then _ else xs j)
      rw [if_neg e, if_neg e]
      have ho := h.own j hj b' hb'
      refine ⟨ho.1, ?_⟩
      rcases ho.2 with h6 | ⟨g', cap', cur, e1, e2, e3, e4⟩
      · exact .inl h6
      · have hg' := hgS j hj e b' hb' g' (by rw [e1]; rfl)
        exact .inr ⟨g', cap', cur, e1, e2, (same g' hg'.2.2 hg'.1 hg'.2.1).trans e3, e4⟩
  · by_cases e : j = i
    · subst e
      replace hg' : (if j = j then Value.slice (some ⟨g, 0, none⟩) ((xs j).length + 1) cap else S j).ownBlock = some g' := hg'
      rw [if_pos rfl] at hg'
      have hgg : g = g' := by simpa [Value.ownBlock] using hg'
      subst hgg
      refine ⟨hnew.1, hgl, hnew.2.1, fun k hk hkj b2 hb2 => ?_⟩
      show (if k = j then _ else S k).ownBlock ≠ _
      rw [if_neg hkj]
      exact hnew.2.2 k hk hkj b2 hb2
    · replace hg' : (if j = i then Value.slice (some ⟨g, 0, none⟩) ((xs i).length + 1) cap else S j).ownBlock = some g' := hg'
      rw [if_neg e] at hg'
      have hr := h.row j hj b' hb' g' hg'
      refine ⟨hr.1, Nat.lt_of_lt_of_le hr.2.1 h4, hr.2.2.1, fun k hk hkj b2 hb2 => ?_⟩
      show (if k = i then _ else S k).ownBlock ≠ _
      by_cases e2 : k = i
      · rw [if_pos e2]
        intro e3
        have hgg : g = g' := by simpa [Value.ownBlock] using e3
        exact hnew.2.2 j hj e b' hb' (by rw [hgg]; exact hg')
      · rw [if_neg e2]
        exact hr.2.2.2 k hk hkj b2 hb2
  · refine same k hk (fun e => ?_) (fun e => ?_)
    · subst e
      rcases hp with hp | hp
      · exact hbl.2 hp
      · omega
    · rcases hp with hp | hp
      · exact (h.row i hi b hb k e).1 hp
      · have := hSlow k e; omega
end Go.Proofs.YtoociokhldakbaaGreat
