/- The pokes in memory. -/
import Derived.Test.YtoociokhldakbaaGreatNE
import Derived.Test.YtoociokhldakbaaGreatN6
import Derived.OwnWalk
import Derived.Deep.DeepMust
import Derived.Deep.AppendLies
namespace Go.Proofs.YtoociokhldakbaaGreat
open Go.ChangeShapes Go.WideShapes Go.ChangeAt Go.RowKit
set_option linter.unusedVariables false
/-- the lists stand as they did where only a block of P, or new ones, have been written -/
theorem LS.grown {w w' : World} {B n : Nat} {bl : Nat → Option Nat} {P P' : Nat → Prop} {F : Nat → Bool} {S : Nat → Value} {xs : Nat → List Value} {ob : Option Nat} (h : LS w B n bl P F S xs) (hg : w.grownBy w' ob) (ho : ∀ b, ob = some b → P b) (hP : ∀ g, P' g → g < w'.heap.size ∧ (P g ∨ w.heap.size ≤ g)) : LS w' B n bl P' F S xs :=
  ⟨fun i hi b hb => (hg.block b (h.blk i hi b hb).lt (fun e => (h.low i hi b hb).2 (ho b e.symm))).trans (h.blk i hi b hb),
   fun i hi b hb => (h.own i hi b hb).kept hg (by
    cases hS : (S i).ownBlock with
    | none => exact .inl rfl
    | some g => exact .inr fun e => (h.row i hi b hb g hS).1 (ho g e.symm)),
   fun i hi b hb => ⟨(h.low i hi b hb).1, fun hp => by
    rcases (hP b hp).2 with h1 | h1
    · exact (h.low i hi b hb).2 h1
    · have := (h.blk i hi b hb).lt
      omega⟩,
   h.inj,
   fun i hi b hb g hgS => ⟨fun hp => by
    rcases (hP g hp).2 with h1 | h1
    · exact (h.row i hi b hb g hgS).1 h1
    · have := (h.row i hi b hb g hgS).2.1
      omega, Nat.lt_of_lt_of_le (h.row i hi b hb g hgS).2.1 hg.size, (h.row i hi b hb g hgS).2.2⟩,
   fun g hp => (hP g hp).1⟩
/-- m pokes whose row begins in block pb: node, and A's kind, sign, bytes, bits and text -/
def GPk (w : World) (pb m : Nat) (N ak : Nat → Int) (ag : Nat → Bool) (am : Nat → List Nat) (ab : Nat → Nat) (tx : Nat → ByteArray) : Prop :=
  ∀ i, i < m → ∃ MA mc KA kn kc k2 n2 M2 m2 c2 b2 t2 K2 l2 d2, w.cell? ⟨pb, i * 13, none⟩ = some (.int .i64 (N i)) ∧ w.cell? ⟨pb, i * 13 + 1, none⟩ = some (.int .i64 (ak i)) ∧ w.cell? ⟨pb, i * 13 + 2, none⟩ = some (.bool (ag i)) ∧ w.cell? ⟨pb, i * 13 + 3, none⟩ = some (.slice MA (am i).length mc) ∧ w.cell? ⟨pb, i * 13 + 4, none⟩ = some (.int .u64 (ab i : Int)) ∧ w.cell? ⟨pb, i * 13 + 5, none⟩ = some (.string (tx i)) ∧ w.cell? ⟨pb, i * 13 + 6, none⟩ = some (.slice KA kn kc) ∧
    w.cell? ⟨pb, i * 13 + 7, none⟩ = some (.int .i64 k2) ∧ w.cell? ⟨pb, i * 13 + 8, none⟩ = some (.bool n2) ∧ w.cell? ⟨pb, i * 13 + 9, none⟩ = some (.slice M2 m2 c2) ∧ w.cell? ⟨pb, i * 13 + 10, none⟩ = some (.int .u64 b2) ∧ w.cell? ⟨pb, i * 13 + 11, none⟩ = some (.string t2) ∧ w.cell? ⟨pb, i * 13 + 12, none⟩ = some (.slice K2 l2 d2) ∧ Sl w MA mc (by8 (am i))
/-- what the pokes are: of a list node, with a value without parts -/
structure POk (n m : Nat) (kk : Nat → Int) (N : Nat → Nat) (ak : Nat → Int) (am : Nat → List Nat) (ab : Nat → Nat) : Prop where
  size : m ≤ 1000
  node : ∀ i, i < m → N i < n ∧ kk (N i) = 6
  kind : ∀ i, i < m → 0 ≤ ak i ∧ ak i ≤ 5
  bits : ∀ i, i < m → ak i = 1 → ab i ≤ 1
  mag : ∀ i, i < m → (am i).length ≤ 40 ∧ ∀ d, d ∈ am i → d < 256
theorem GPk.below {w w' : World} {pb m : Nat} {N ak : Nat → Int} {ag : Nat → Bool} {am : Nat → List Nat} {ab : Nat → Nat} {tx : Nat → ByteArray} (h : GPk w pb m N ak ag am ab tx) (hb : Kept w w') : GPk w' pb m N ak ag am ab tx := fun i hi => by
  obtain ⟨MA, mc, KA, kn, kc, k2, n2, M2, m2, c2, b2, t2, K2, l2, d2, h0, h1, h2, h3, h4, h5, h6, h7, h8, h9, h10, h11, h12, hs⟩ := h i hi
  have e : ∀ k v, w.cell? ⟨pb, i * 13 + k, none⟩ = some v → w'.cell? ⟨pb, i * 13 + k, none⟩ = some v := fun k v hc => (hb.cell (block_lt_of_cell hc)).trans hc
  exact ⟨MA, mc, KA, kn, kc, k2, n2, M2, m2, c2, b2, t2, K2, l2, d2, (hb.cell (block_lt_of_cell h0)).trans h0, e 1 _ h1, e 2 _ h2, e 3 _ h3, e 4 _ h4, e 5 _ h5, e 6 _ h6, e 7 _ h7, e 8 _ h8, e 9 _ h9, e 10 _ h10, e 11 _ h11, e 12 _ h12, hs.below hb⟩
theorem own_pk {w w' : World} {B e z n : Nat} {v : Value} {xs : List Value} (h : w.ownsRow B e z v n xs) (hs : ∀ g, v.ownBlock = some g → g < w.heap.size → w'.heap[g]? = w.heap[g]?) : w'.ownsRow B e z v n xs := by
  refine ⟨h.1, ?_⟩
  rcases h.2 with h2 | ⟨g, cap, cur, e1, e2, e3, e4⟩
  · exact .inl h2
  · exact .inr ⟨g, cap, cur, e1, e2, (hs g (by rw [e1]; rfl) (Array.getElem?_eq_some_iff.1 e3).1).trans e3, e4⟩
/-- an answer has been appended to the row of answers -/
theorem ans_step {w3 w8 w9 : World} {B n i tb g : Nat} {bl : Nat → Option Nat} {P : Nat → Prop} {F : Nat → Bool} {S : Nat → Value} {xs : Nat → List Value} {rv : Value} {ys : List Value} (hps : ∀ g, P g → g < w3.heap.size) (hB : B ≤ w3.heap.size) (hL : LS w8 B n bl (fun g => P g ∨ rv.ownBlock = some g) F S xs) (hP : PK B P w3 w8) (ho : w8.ownsRow w3.heap.size tb 1 rv i ys) (hg : w8.grownBy w9 rv.ownBlock) (hat : rv.ownBlock = some g ∨ g = w8.heap.size) (hgl : g < w9.heap.size) (c : Nat) :
    LS w9 B n bl (fun g' => P g' ∨ (Value.slice (some ⟨g, 0, none⟩) (i + 1) c).ownBlock = some g') F S xs ∧ PK B P w3 w9 := by
  have hlow : ∀ gg, rv.ownBlock = some gg → w3.heap.size ≤ gg := fun gg hgg => by
    rcases ho.2 with ⟨e1, _⟩ | ⟨g', cap', cur, e1, hB', _⟩
    · rw [e1] at hgg; cases hgg
    · rw [e1] at hgg
      have : g' = gg := by simpa [Value.ownBlock] using hgg
      omega
  refine ⟨hL.grown hg (fun b h => .inr h) (fun g' hp => ?_), hg.os.trans hP.os, hg.tape.trans hP.tape, hg.output.trans hP.output, Nat.le_trans hP.size hg.size, fun k hk hp => ?_⟩
  · rcases hp with hp | hp
    · exact ⟨Nat.lt_of_lt_of_le (hps g' hp) (Nat.le_trans hP.size hg.size), .inl (.inl hp)⟩
    · have e : g = g' := by simpa [Value.ownBlock] using hp
      subst e
      refine ⟨hgl, ?_⟩
      rcases hat with h | h
      · exact .inl (.inr h)
      · exact .inr (by omega)
  · have hk3 : k < w3.heap.size := hk
    refine (hg.block k (Nat.lt_of_lt_of_le hk hP.size) fun e => ?_).trans (hP.block k hk hp)
    have := hlow k e.symm
    omega
end Go.Proofs.YtoociokhldakbaaGreat
