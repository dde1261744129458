/- The next node of a graph made. -/
import Derived.Test.YtoociokhldakbaaGreatN9
namespace Go.Proofs.YtoociokhldakbaaGreat
open Go.ChangeShapes Go.WideShapes Go.ChangeAt Go.RowKit
set_option linter.unusedVariables false
/-- i nodes of a graph have been made: Lv is the row of their values -/
structure B1 (w wr : World) (i : Nat) (kk : Nat → Int) (ks : Nat → List Nat) (Lv : Value) (kd : Nat → NK) : Prop where
  kept : Kept w wr
  own : wr.ownsRow w.heap.size 52 1 Lv i ((List.range i).map fun j => (kd j).val (ks j).length)
  lst : ∀ j, j < i → kk j = 6 → ∃ b, kd j = .list b none 0 ∧ w.heap.size ≤ b ∧ Lv.ownBlock ≠ some b ∧ Blk wr b 85 #[.slice none 0 0, .bool false, .int .u32 0]
  tup : ∀ j, j < i → kk j = 7 → ∃ A c, kd j = .tup A c ∧ Sl wr A c ((ks j).map fun k => (kd k).val (ks k).length) ∧ ∀ g off, A = some ⟨g, off, none⟩ → w.heap.size ≤ g ∧ g < wr.heap.size ∧ Lv.ownBlock ≠ some g ∧ ∀ k, k < i → ∀ A' c', kd k ≠ .list g A' c'
  sc : ∀ j, j < i → kk j ≠ 6 → kk j ≠ 7 → ∃ v, kd j = .sc v ∧ ScOk v
  inj : ∀ j, j < i → ∀ k, k < i → ∀ b A c A' c', kd j = .list b A c → kd k = .list b A' c' → j = k
theorem B1.kind {w wr : World} {i : Nat} {kk : Nat → Int} {ks : Nat → List Nat} {Lv : Value} {kd : Nat → NK} (h : B1 w wr i kk ks Lv kd) {j : Nat} (hj : j < i) {b : Nat} {A : Option Addr} {c : Nat} (hk : kd j = .list b A c) : kk j = 6 ∧ w.heap.size ≤ b ∧ b < wr.heap.size ∧ Lv.ownBlock ≠ some b ∧ Blk wr b 85 #[.slice none 0 0, .bool false, .int .u32 0] := by
  by_cases h6 : kk j = 6
  · obtain ⟨b', e, h1, h2, h3⟩ := h.lst j hj h6
    rw [hk] at e
    injection e with e1
    subst e1
    exact ⟨h6, h1, h3.lt, h2, h3⟩
  · by_cases h7 : kk j = 7
    · obtain ⟨A', c', e, _⟩ := h.tup j hj h7
      rw [hk] at e
      cases e
    · obtain ⟨v, e, _⟩ := h.sc j hj h6 h7
      rw [hk] at e
      cases e
/-- the next node has been made -/
theorem B1.push {w wr w1 w' : World} {i : Nat} {kk : Nat → Int} {ks : Nat → List Nat} {Lv Lv' : Value} {kd : Nat → NK} (h : B1 w wr i kk ks Lv kd) (nk : NK) (hk : Kept wr w1) (hg : w1.grownBy w' Lv.ownBlock) {g : Nat} (hLv : Lv'.ownBlock = some g) (hat : Lv.ownBlock = some g ∨ w1.heap.size ≤ g)
    (how : w'.ownsRow w.heap.size 52 1 Lv' (i + 1) (((List.range i).map fun j => (kd j).val (ks j).length) ++ [nk.val (ks i).length]))
    (hlow : ∀ j, j ≤ i → kk j = 7 → ∀ k, k ∈ ks j → k < j)
    (h6 : kk i = 6 → ∃ b, nk = .list b none 0 ∧ wr.heap.size ≤ b ∧ Blk w1 b 85 #[.slice none 0 0, .bool false, .int .u32 0])
    (h7 : kk i = 7 → ∃ A c, nk = .tup A c ∧ Sl w1 A c ((ks i).map fun k => (kd k).val (ks k).length) ∧ ∀ g off, A = some ⟨g, off, none⟩ → wr.heap.size ≤ g ∧ g < w1.heap.size)
    (h8 : kk i ≠ 6 → kk i ≠ 7 → ∃ v, nk = .sc v ∧ ScOk v) : B1 w w' (i + 1) kk ks Lv' (fun j => if j = i then nk else kd j) := by
  have hB : w.heap.size ≤ wr.heap.size := h.kept.size
  have hS : wr.heap.size ≤ w1.heap.size := hk.size
  have hlvlt : ∀ gg, Lv.ownBlock = some gg → w.heap.size ≤ gg ∧ gg < wr.heap.size := fun gg hgg => by
    rcases h.own.2 with ⟨e1, _⟩ | ⟨g', cap', cur, e1, h2, h3, _⟩
    · rw [e1] at hgg; cases hgg
    · rw [e1] at hgg
      have : g' = gg := by simpa [Value.ownBlock] using hgg
      subst this
      exact ⟨h2, (Array.getElem?_eq_some_iff.1 h3).1⟩
  have same : ∀ k, k < w1.heap.size → Lv.ownBlock ≠ some k → w'.heap[k]? = w1.heap[k]? := fun k hk1 hk2 => hg.block k hk1 (fun e => hk2 e.symm)
  have lv' : ∀ k, k < w1.heap.size → Lv.ownBlock ≠ some k → Lv'.ownBlock ≠ some k := fun k hk1 hk2 e => by
    rw [hLv] at e
    injection e with e
    subst e
    rcases hat with hat | hat
    · exact hk2 hat
    · omega
  have slSame : ∀ {A : Option Addr} {c : Nat} {xs : List Value}, Sl w1 A c xs → (∀ gg off, A = some ⟨gg, off, none⟩ → Lv.ownBlock ≠ some gg) → Sl w' A c xs := fun hs hne => by
    refine ⟨hs.cap, hs.max, fun hx => ?_⟩
    obtain ⟨b, off, e, hc⟩ := hs.at_ hx
    refine ⟨b, off, e, fun j u hu => ?_⟩
    have h1 := hc j u hu
    exact (World.cell?_of_block (same b (block_lt_of_cell h1) (hne b off e))).trans h1
  have newNe : ∀ gg, wr.heap.size ≤ gg → Lv.ownBlock ≠ some gg := fun gg hgg e => by have := (hlvlt gg e).2; omega
  have kdOld : ∀ j, j < i → (fun j => if j = i then nk else kd j) j = kd j := fun j hj => if_neg (by omega)
  have kdNew : (fun j => if j = i then nk else kd j) i = nk := if_pos rfl
  have mapOld : ∀ l : List Nat, (∀ k, k ∈ l → k < i) → (l.map fun k => ((fun j => if j = i then nk else kd j) k).val (ks k).length) = l.map fun k => (kd k).val (ks k).length := fun l hl => List.map_congr_left fun k hk => by rw [kdOld k (hl k hk)]
  have listB : ∀ j, j < i + 1 → ∀ b A c, (fun j => if j = i then nk else kd j) j = .list b A c → (j < i ∧ kd j = .list b A c) ∨ (j = i ∧ nk = .list b A c ∧ wr.heap.size ≤ b) := fun j hj b A c e => by
    by_cases hji : j = i
    · subst hji
      rw [kdNew] at e
      refine .inr ⟨rfl, e, ?_⟩
      by_cases k6 : kk j = 6
      · obtain ⟨b', e', h1, _⟩ := h6 k6
        rw [e] at e'
        injection e' with e1
        subst e1
        exact h1
      · by_cases k7 : kk j = 7
        · obtain ⟨A', c', e', _⟩ := h7 k7
          rw [e] at e'
          cases e'
        · obtain ⟨v, e', _⟩ := h8 k6 k7
          rw [e] at e'
          cases e'
    · rw [kdOld j (by omega)] at e
      exact .inl ⟨by omega, e⟩
  refine ⟨⟨hg.os.trans (hk.os.trans h.kept.os), hg.tape.trans (hk.tape.trans h.kept.tape), hg.output.trans (hk.output.trans h.kept.output), Nat.le_trans hB (Nat.le_trans hS hg.size), fun k hk1 => ?_⟩, ?_, fun j hj k6 => ?_, fun j hj k7 => ?_, fun j hj k6 k7 => ?_, fun j hj k hkk b A c A' c' e1 e2 => ?_⟩
  · refine (same k (by omega) (fun e => ?_)).trans ((hk.block k (by omega)).trans (h.kept.block k hk1))
    have := (hlvlt k e).1
    omega
  · rw [List.range_succ, List.map_append, mapOld (List.range i) (fun k hk => List.mem_range.1 hk)]
    show w'.ownsRow _ _ 1 Lv' (i + 1) (_ ++ [((fun j => if j = i then nk else kd j) i).val (ks i).length])
    rw [kdNew]
    exact how
  · by_cases hji : j = i
    · subst hji
      obtain ⟨b, e, h1, h2⟩ := h6 k6
      refine ⟨b, kdNew.trans e, by omega, lv' b h2.lt (newNe b h1), (same b h2.lt (newNe b h1)).trans h2⟩
    · obtain ⟨b, e, h1, h2, h3⟩ := h.lst j (by omega) k6
      have h4 := Blk.below h3 hk
      exact ⟨b, (kdOld j (by omega)).trans e, h1, lv' b h4.lt h2, (same b h4.lt h2).trans h4⟩
  · by_cases hji : j = i
    · subst hji
      obtain ⟨A, c, e, h1, h2⟩ := h7 k7
      refine ⟨A, c, kdNew.trans e, ?_, fun gg off eA => ?_⟩
      · show Sl w' A c ((ks j).map fun k => ((fun i' => if i' = j then nk else kd i') k).val (ks k).length)
        rw [mapOld (ks j) (fun k hk => hlow j (Nat.le_refl _) k7 k hk)]
        exact slSame h1 (fun gg off eA => newNe gg (h2 gg off eA).1)
      · have h3 := h2 gg off eA
        refine ⟨by omega, Nat.lt_of_lt_of_le h3.2 hg.size, lv' gg h3.2 (newNe gg h3.1), fun k hkk A' c' ek => ?_⟩
        rcases listB k hkk gg A' c' ek with ⟨q1, q2⟩ | ⟨q1, q2, _⟩
        · have := (h.kind q1 q2).2.2.1
          omega
        · rw [e] at q2
          cases q2
    · obtain ⟨A, c, e, h1, h2⟩ := h.tup j (by omega) k7
      refine ⟨A, c, (kdOld j (by omega)).trans e, ?_, fun gg off eA => ?_⟩
      · show Sl w' A c ((ks j).map fun k => ((fun i' => if i' = i then nk else kd i') k).val (ks k).length)
        rw [mapOld (ks j) (fun k hk => by have := hlow j (by omega) k7 k hk; omega)]
        exact slSame (h1.below hk) (fun gg off eA => (h2 gg off eA).2.2.1)
      · obtain ⟨q1, q2, q3, q4⟩ := h2 gg off eA
        refine ⟨q1, Nat.lt_of_lt_of_le q2 (Nat.le_trans hS hg.size), lv' gg (by omega) q3, fun k hkk A' c' ek => ?_⟩
        rcases listB k hkk gg A' c' ek with ⟨r1, r2⟩ | ⟨r1, r2, r3⟩
        · exact q4 k r1 A' c' r2
        · omega
  · by_cases hji : j = i
    · subst hji
      obtain ⟨v, e, h1⟩ := h8 k6 k7
      exact ⟨v, kdNew.trans e, h1⟩
    · obtain ⟨v, e, h1⟩ := h.sc j (by omega) k6 k7
      exact ⟨v, (kdOld j (by omega)).trans e, h1⟩
  · rcases listB j hj b A c e1 with ⟨q1, q2⟩ | ⟨q1, q2, q3⟩ <;> rcases listB k hkk b A' c' e2 with ⟨r1, r2⟩ | ⟨r1, r2, r3⟩
    · exact h.inj j q1 k r1 b A c A' c' q2 r2
    · have := (h.kind q1 q2).2.2.1
      omega
    · have := (h.kind r1 r2).2.2.1
      omega
    · omega
end Go.Proofs.YtoociokhldakbaaGreat
