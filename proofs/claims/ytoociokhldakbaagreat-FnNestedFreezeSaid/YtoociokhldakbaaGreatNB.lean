/- The lists of a graph that has been made. -/
import Derived.Test.YtoociokhldakbaaGreatN10
import Derived.Deep.AppendLies
namespace Go.Proofs.YtoociokhldakbaaGreat
open Go.ChangeShapes Go.WideShapes Go.ChangeAt Go.RowKit
set_option linter.unusedVariables false
/-- the block of a node that is a list -/
def lbl (kd : Nat → NK) (j : Nat) : Option Nat := match kd j with | .list b _ _ => some b | _ => none
/-- the blocks that the tuples and the row of all values take -/
def Prot (n : Nat) (kd : Nat → NK) (Lv : Value) (g : Nat) : Prop := Lv.ownBlock = some g ∨ ∃ j, j < n ∧ ∃ off c, kd j = .tup (some ⟨g, off, none⟩) c
theorem lbl_some {kd : Nat → NK} {j b : Nat} (h : lbl kd j = some b) : ∃ A c, kd j = .list b A c := by
  unfold lbl at h
  cases hk : kd j with
  | list b' A c =>
    rw [hk] at h
    injection h with h
    subst h
    exact ⟨A, c, rfl⟩
  | tup A c => rw [hk] at h; cases h
  | sc v => rw [hk] at h; cases h
theorem B1.ls {w wr : World} {n : Nat} {kk : Nat → Int} {ks : Nat → List Nat} {Lv : Value} {kd : Nat → NK} (h : B1 w wr n kk ks Lv kd) :
    LS wr w.heap.size n (lbl kd) (Prot n kd Lv) (fun _ => false) (fun _ => .slice none 0 0) (fun _ => []) := by
  refine ⟨fun i hi b hb => ?_, fun i hi b hb => ⟨rfl, .inl ⟨rfl, rfl⟩⟩, fun i hi b hb => ?_, fun i hi j hj b h1 h2 => ?_, fun i hi b hb g hg => (by cases hg), fun g hg => ?_⟩
  · obtain ⟨A, c, e⟩ := lbl_some hb
    exact (h.kind hi e).2.2.2.2
  · obtain ⟨A, c, e⟩ := lbl_some hb
    have hk := h.kind hi e
    refine ⟨hk.2.1, fun hp => ?_⟩
    rcases hp with hp | ⟨j, hj, off, c', e2⟩
    · exact hk.2.2.2.1 hp
    · by_cases h7 : kk j = 7
      · obtain ⟨A', c'', e3, _, h4⟩ := h.tup j hj h7
        rw [e2] at e3
        injection e3 with e3 _
        exact (h4 b off e3.symm).2.2.2 i hi A c e
      · by_cases h6 : kk j = 6
        · obtain ⟨b', e3, _⟩ := h.lst j hj h6
          rw [e2] at e3
          cases e3
        · obtain ⟨v, e3, _⟩ := h.sc j hj h6 h7
          rw [e2] at e3
          cases e3
  · obtain ⟨A, c, e1⟩ := lbl_some h1
    obtain ⟨A', c', e2⟩ := lbl_some h2
    exact h.inj i hi j hj b A c A' c' e1 e2
  · rcases hg with hg | ⟨j, hj, off, c', e2⟩
    · rcases h.own.2 with ⟨e1, _⟩ | ⟨g', cap', cur, e1, _, h3, _⟩
      · rw [e1] at hg; cases hg
      · rw [e1] at hg
        have : g' = g := by simpa [Value.ownBlock] using hg
        subst this
        exact (Array.getElem?_eq_some_iff.1 h3).1
    · by_cases h7 : kk j = 7
      · obtain ⟨A', c'', e3, _, h4⟩ := h.tup j hj h7
        rw [e2] at e3
        injection e3 with e3 _
        exact (h4 g off e3.symm).2.1
      · by_cases h6 : kk j = 6
        · obtain ⟨b', e3, _⟩ := h.lst j hj h6
          rw [e2] at e3
          cases e3
        · obtain ⟨v, e3, _⟩ := h.sc j hj h6 h7
          rw [e2] at e3
          cases e3
/-- the values of a node's kids -/
def kvals (kd : Nat → NK) (ks : Nat → List Nat) (j : Nat) : List Value := (ks j).map fun k => (kd k).val (ks k).length
/-- the graph has been made -/
def NestP (n : Nat) (kk : Nat → Int) (ks : Nat → List Nat) (w : World) (e : Ending) (w' : World) : Prop :=
  ∃ Lv kd w1 S, e = .returned (.tuple #[Lv, .bool true]) ∧ Kept w w' ∧ ∃ B, w.heap.size ≤ B ∧ (∃ w0, w0.heap.size = B ∧ B1 w0 w1 n kk ks Lv kd) ∧ PK B (Prot n kd Lv) w1 w' ∧ LS w' B n (lbl kd) (Prot n kd Lv) (fun _ => false) S (kvals kd ks)
theorem LS.addP {w w' : World} {B n : Nat} {bl : Nat → Option Nat} {P : Nat → Prop} {F : Nat → Bool} {S : Nat → Value} {xs : Nat → List Value} (h : LS w B n bl P F S xs) (hk : Kept w w') {nb : Nat} (h1 : w.heap.size ≤ nb) (h2 : nb < w'.heap.size) : LS w' B n bl (fun g => P g ∨ g = nb) F S xs := by
  have h' := h.below hk
  refine ⟨h'.blk, h'.own, fun i hi b hb => ⟨(h.low i hi b hb).1, fun hp => ?_⟩, h.inj, fun i hi b hb g hg => ⟨fun hp => ?_, (h'.row i hi b hb g hg).2⟩, fun g hp => ?_⟩
  · rcases hp with hp | hp
    · exact (h.low i hi b hb).2 hp
    · have := (h.blk i hi b hb).lt
      omega
  · rcases hp with hp | hp
    · exact (h.row i hi b hb g hg).1 hp
    · have := (h.row i hi b hb g hg).2.1
      omega
  · rcases hp with hp | hp
    · exact h'.psz g hp
    · omega
theorem LS.dropP {w : World} {B n : Nat} {bl : Nat → Option Nat} {P P' : Nat → Prop} {F : Nat → Bool} {S : Nat → Value} {xs : Nat → List Value} (h : LS w B n bl P' F S xs) (hp : ∀ g, P g → P' g) : LS w B n bl P F S xs :=
  ⟨h.blk, h.own, fun i hi b hb => ⟨(h.low i hi b hb).1, fun hq => (h.low i hi b hb).2 (hp b hq)⟩, h.inj, fun i hi b hb g hg => ⟨fun hq => (h.row i hi b hb g hg).1 (hp g hq), (h.row i hi b hb g hg).2⟩, fun g hq => h.psz g (hp g hq)⟩
theorem LS.congr {w : World} {B n : Nat} {bl : Nat → Option Nat} {P : Nat → Prop} {F : Nat → Bool} {S : Nat → Value} {xs ys : Nat → List Value} (h : LS w B n bl P F S xs) (he : ∀ i, i < n → ∀ b, bl i = some b → xs i = ys i) : LS w B n bl P F S ys :=
  ⟨h.blk, fun i hi b hb => by rw [← he i hi b hb]; exact h.own i hi b hb, h.low, h.inj, h.row, h.psz⟩
theorem PK.dropP {B : Nat} {P P' : Nat → Prop} {a b : World} (h : PK B P' a b) (hp : ∀ g, P g → P' g) : PK B P a b :=
  ⟨h.os, h.tape, h.output, h.size, fun g hg hq => h.block g hg (hq.imp (hp g) id)⟩
theorem B1.elemv {w wr : World} {i : Nat} {kk : Nat → Int} {ks : Nat → List Nat} {Lv : Value} {kd : Nat → NK} (h : B1 w wr i kk ks Lv kd) {j : Nat} (hj : j < i) : ∃ g c, Lv = .slice (some ⟨g, 0, none⟩) i c ∧ ∀ j, j < i → wr.cell? ⟨g, j, none⟩ = some ((kd j).val (ks j).length) := by
  obtain ⟨g, c, eL, _, _⟩ := h.own.form (by omega)
  refine ⟨g, c, eL, fun j hj => ?_⟩
  have hc := h.own.cells (g := g) (by rw [eL]; rfl) j ((kd j).val (ks j).length) (by rw [List.getElem?_map, List.getElem?_range hj]; rfl)
  have e2 : (⟨g, 0, none⟩ : Addr).add j = ⟨g, j, none⟩ := by by_cases h0 : j = 0 <;> simp [Addr.add, h0]
  rwa [e2] at hc
end Go.Proofs.YtoociokhldakbaaGreat
