/- Rows of elements of many cells; pokes. -/
import Derived.Test.YtoociokhldakbaaGreatOR
import Derived.OwnWalk
import Derived.Deep.DeepMust
import Derived.Deep.AppendLies
import Derived.Deep.RegionHeld3
import Derived.Orders
namespace Go.Proofs.YtoociokhldakbaaGreat
open Go.ChangeShapes Go.WideShapes Go.ChangeAt Go.RowKit
set_option linter.unusedVariables false
/-- a row of the call's own that n elements of z cells have been put into, in blocks of F that are not the row's -/
def GrZ (E : (Nat → Prop) → World → List Value → Prop) (z : Nat) (ty : TypeId) (F : Nat → Prop) (B : Nat) (w : World) (n : Nat) (sv : Value) : Prop :=
  ∃ xs, w.ownsRow B ty z sv n xs ∧ ∀ i, i < n → E (fun b => F b ∧ sv.ownBlock ≠ some b) w ((xs.drop (i * z)).take z)
def MovesZ (E : (Nat → Prop) → World → List Value → Prop) : Prop :=
  ∀ (F F' : Nat → Prop) (w w' : World) (cs : List Value), E F w cs → (∀ b, F b → b < w.heap.size → F' b) → (∀ b, F b → b < w.heap.size → w'.heap[b]? = w.heap[b]?) → E F' w' cs
theorem GrZ.start (E : (Nat → Prop) → World → List Value → Prop) (z : Nat) (ty : TypeId) (F : Nat → Prop) (B : Nat) (w : World) : GrZ E z ty F B w 0 (.slice none 0 0) := ⟨[], World.ownsRow_nil _ _ _ _, fun i hi => absurd hi (by omega)⟩
theorem GrZ.move {E : (Nat → Prop) → World → List Value → Prop} {z : Nat} {ty : TypeId} {F : Nat → Prop} {B : Nat} {w w' : World} {n : Nat} {sv : Value} (hE : MovesZ E) (h : GrZ E z ty F B w n sv) (hs : ∀ b, F b ∨ B ≤ b → b < w.heap.size → w'.heap[b]? = w.heap[b]?) : GrZ E z ty F B w' n sv := by
  obtain ⟨xs, ho, hv⟩ := h
  refine ⟨xs, ⟨ho.1, ?_⟩, fun i hi => ?_⟩
  · rcases ho.2 with h2 | ⟨g, cap, cur, e1, e2, e3, e4⟩
    · exact .inl h2
    · exact .inr ⟨g, cap, cur, e1, e2, (hs g (.inr e2) (Array.getElem?_eq_some_iff.1 e3).1).trans e3, e4⟩
  · exact hE _ _ w w' _ (hv i hi) (fun _ h _ => h) fun b hb hl => hs b (.inl hb.1) hl
theorem GrZ.below {E : (Nat → Prop) → World → List Value → Prop} {z : Nat} {ty : TypeId} {F : Nat → Prop} {B : Nat} {w w' : World} {n : Nat} {sv : Value} (hE : MovesZ E) (h : GrZ E z ty F B w n sv) (hk : Kept w w') : GrZ E z ty F B w' n sv :=
  h.move hE fun b _ hl => hk.block b hl
theorem cut_left {xs ys : List Value} {n z i : Nat} (hx : xs.length = n * z) (hi : i < n) : ((xs ++ ys).drop (i * z)).take z = (xs.drop (i * z)).take z := by
  have h1 : i * z + z ≤ n * z := by
    have := Nat.mul_le_mul_right z (show i + 1 ≤ n by omega)
    rwa [Nat.succ_mul] at this
  rw [List.drop_append_of_le_length (by omega), List.take_append_of_le_length (by rw [List.length_drop]; omega)]
theorem cut_right {xs ys : List Value} {n z i : Nat} (hx : xs.length = n * z) (hi : n ≤ i) : ((xs ++ ys).drop (i * z)).take z = (ys.drop ((i - n) * z)).take z := by
  have h1 : n * z ≤ i * z := Nat.mul_le_mul_right z hi
  rw [List.drop_append, List.drop_eq_nil_of_le (by omega), List.nil_append, hx, Nat.sub_mul]
theorem GrZ.push {E : (Nat → Prop) → World → List Value → Prop} {z : Nat} {ty : TypeId} {F : Nat → Prop} {B : Nat} {w w' : World} {n m g cap : Nat} {sv : Value} {xs news : List Value} (hE : MovesZ E) (hx : w.ownsRow B ty z sv n xs) (hv : ∀ i, i < n → E (fun b => F b ∧ sv.ownBlock ≠ some b) w ((xs.drop (i * z)).take z))
    (ho : w'.ownsRow B ty z (.slice (some ⟨g, 0, none⟩) (n + m) cap) (n + m) (xs ++ news)) (hg : w.grownBy w' sv.ownBlock) (hat : sv.ownBlock = some g ∨ g = w.heap.size)
    (hn : ∀ j, j < m → E (fun b => F b ∧ sv.ownBlock ≠ some b) w ((news.drop (j * z)).take z)) : GrZ E z ty F B w' (n + m) (.slice (some ⟨g, 0, none⟩) (n + m) cap) := by
  have mv : ∀ cs, E (fun b => F b ∧ sv.ownBlock ≠ some b) w cs → E (fun b => F b ∧ (Value.slice (some ⟨g, 0, none⟩) (n + m) cap).ownBlock ≠ some b) w' cs := fun cs h => by
    refine hE _ _ w w' cs h (fun b hb hl => ⟨hb.1, fun e => ?_⟩) (fun b hb hl => hg.block b hl fun e => hb.2 e.symm)
    have e : g = b := by simpa [Value.ownBlock] using e
    subst e
    rcases hat with h1 | h1
    · exact hb.2 h1
    · omega
  refine ⟨xs ++ news, ho, fun i hi => ?_⟩
  by_cases h : i < n
  · rw [cut_left hx.1 h]
    exact mv _ (hv i h)
  · rw [cut_right hx.1 (by omega)]
    exact mv _ (hn (i - n) (by omega))
theorem GrZ.slice {E : (Nat → Prop) → World → List Value → Prop} {z : Nat} {ty : TypeId} {F : Nat → Prop} {B : Nat} {w : World} {n : Nat} {sv : Value} (h : GrZ E z ty F B w n sv) : ∃ A c, sv = .slice A n c := by
  obtain ⟨xs, ho, _⟩ := h
  rcases ho.2 with ⟨e1, e2⟩ | ⟨g, cap, cur, e1, _⟩
  · exact ⟨none, 0, by rw [e2]; exact e1⟩
  · exact ⟨_, cap, e1⟩
/-- the cells of its elements, read -/
theorem GrZ.form {E : (Nat → Prop) → World → List Value → Prop} {z : Nat} {ty : TypeId} {F : Nat → Prop} {B : Nat} {w : World} {n : Nat} {sv : Value} (hE : MovesZ E) (hn : 0 < n) (h : GrZ E z ty F B w n sv) : ∃ g c, sv = .slice (some ⟨g, 0, none⟩) n c ∧ B ≤ g ∧ g < w.heap.size ∧ ∀ i, i < n → ∃ cs : List Value, (∀ j u, cs[j]? = some u → w.cell? ⟨g, i * z + j, none⟩ = some u) ∧ E F w cs := by
  obtain ⟨xs, ho, hv⟩ := h
  rcases ho.2 with ⟨e1, e2⟩ | ⟨g, cap, cur, e1, e2, e3, e4, e5, _⟩
  · omega
  · refine ⟨g, cap, e1, e2, (Array.getElem?_eq_some_iff.1 e3).1, fun i hi => ⟨_, fun j u hj => ?_, hE _ _ w w _ (hv i hi) (fun b hb _ => hb.1) fun _ _ _ => rfl⟩⟩
    rw [List.getElem?_take] at hj
    split at hj
    · rw [List.getElem?_drop] at hj
      have := ho.cells (g := g) (by rw [e1]; rfl) (i * z + j) u hj
      rwa [addr0, Nat.zero_add] at this
    · cases hj
/-- a poke that has been made of a graph whose list nodes are those of kind 6: its node, and two made values -/
def PK13 (n : Nat) (kk : Nat → Int) (F : Nat → Prop) (w : World) (cs : List Value) : Prop :=
  ∃ (N : Nat) (ka kb : Int) (a0 a1 a2 a3 a4 a5 b0 b1 b2 b3 b4 b5 : Value), cs = [.int .i64 (N : Int), a0, a1, a2, a3, a4, a5, b0, b1, b2, b3, b4, b5] ∧ N < n ∧ kk N = 6 ∧ OG F w 2 ka (.agg #[a0, a1, a2, a3, a4, a5]) ∧ OG F w 2 kb (.agg #[b0, b1, b2, b3, b4, b5])
theorem PK13.moves (n : Nat) (kk : Nat → Int) : MovesZ (PK13 n kk) := fun F F' w w' cs ⟨N, ka, kb, a0, a1, a2, a3, a4, a5, b0, b1, b2, b3, b4, b5, e, h1, h2, h3, h4⟩ hF hs =>
  ⟨N, ka, kb, a0, a1, a2, a3, a4, a5, b0, b1, b2, b3, b4, b5, e, h1, h2, h3.move hF hs, h4.move hF hs⟩
end Go.Proofs.YtoociokhldakbaaGreat
