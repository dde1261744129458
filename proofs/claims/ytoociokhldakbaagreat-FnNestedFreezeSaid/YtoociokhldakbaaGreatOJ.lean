/- Rows of nodes that grow. -/
import Derived.Test.YtoociokhldakbaaGreatOI
import Derived.OwnWalk
import Derived.Deep.DeepMust
import Derived.Deep.AppendLies
import Derived.Deep.RegionHeld3
import Derived.Orders
namespace Go.Proofs.YtoociokhldakbaaGreat
open Go.ChangeShapes Go.WideShapes Go.ChangeAt Go.RowKit
set_option linter.unusedVariables false
/-- a row of the call's own that n elements of six cells have been put into, in blocks of F that are not the row's -/
def GrE (E : Nat → (Nat → Prop) → World → Value → Prop) (ty : TypeId) (F : Nat → Prop) (B : Nat) (w : World) (n : Nat) (sv : Value) : Prop :=
  ∃ xs, w.ownsRow B ty 6 sv n xs ∧ ∀ i, i < n → ∃ v, Six xs (i * 6) v ∧ E i (fun b => F b ∧ sv.ownBlock ≠ some b) w v
/-- what an element is told by: it stays where its blocks stay -/
def Moves (E : Nat → (Nat → Prop) → World → Value → Prop) : Prop :=
  ∀ (i : Nat) (F F' : Nat → Prop) (w w' : World) (v : Value), E i F w v → (∀ b, F b → b < w.heap.size → F' b) → (∀ b, F b → b < w.heap.size → w'.heap[b]? = w.heap[b]?) → E i F' w' v
theorem GrE.start (E : Nat → (Nat → Prop) → World → Value → Prop) (ty : TypeId) (F : Nat → Prop) (B : Nat) (w : World) : GrE E ty F B w 0 (.slice none 0 0) := ⟨[], World.ownsRow_nil _ _ _ _, fun i hi => absurd hi (by omega)⟩
theorem GrE.move {E : Nat → (Nat → Prop) → World → Value → Prop} {ty : TypeId} {F : Nat → Prop} {B : Nat} {w w' : World} {n : Nat} {sv : Value} (hE : Moves E) (h : GrE E ty F B w n sv) (hs : ∀ b, F b ∨ B ≤ b → b < w.heap.size → w'.heap[b]? = w.heap[b]?) : GrE E ty F B w' n sv := by
  obtain ⟨xs, ho, hv⟩ := h
  refine ⟨xs, ⟨ho.1, ?_⟩, fun i hi => ?_⟩
  · rcases ho.2 with h2 | ⟨g, cap, cur, e1, e2, e3, e4⟩
    · exact .inl h2
    · exact .inr ⟨g, cap, cur, e1, e2, (hs g (.inr e2) (Array.getElem?_eq_some_iff.1 e3).1).trans e3, e4⟩
  · obtain ⟨v, h6, ho⟩ := hv i hi
    exact ⟨v, h6, hE i _ _ w w' v ho (fun _ h _ => h) fun b hb hl => hs b (.inl hb.1) hl⟩
theorem GrE.push {E : Nat → (Nat → Prop) → World → Value → Prop} {ty : TypeId} {F : Nat → Prop} {B : Nat} {w w' : World} {n g cap : Nat} {sv : Value} {xs news : List Value} (hE : Moves E) (hx : w.ownsRow B ty 6 sv n xs) (hv : ∀ i, i < n → ∃ v, Six xs (i * 6) v ∧ E i (fun b => F b ∧ sv.ownBlock ≠ some b) w v)
    (ho : w'.ownsRow B ty 6 (.slice (some ⟨g, 0, none⟩) (n + 1) cap) (n + 1) (xs ++ news)) (hg : w.grownBy w' sv.ownBlock) (hat : sv.ownBlock = some g ∨ g = w.heap.size)
    (hn : ∃ v, Six news 0 v ∧ E n (fun b => F b ∧ sv.ownBlock ≠ some b) w v) : GrE E ty F B w' (n + 1) (.slice (some ⟨g, 0, none⟩) (n + 1) cap) := by
  have mv : ∀ i v, E i (fun b => F b ∧ sv.ownBlock ≠ some b) w v → E i (fun b => F b ∧ (Value.slice (some ⟨g, 0, none⟩) (n + 1) cap).ownBlock ≠ some b) w' v := fun i v h => by
    refine hE i _ _ w w' v h (fun b hb hl => ⟨hb.1, fun e => ?_⟩) (fun b hb hl => hg.block b hl fun e => hb.2 e.symm)
    have e : g = b := by simpa [Value.ownBlock] using e
    subst e
    rcases hat with h1 | h1
    · exact hb.2 h1
    · omega
  refine ⟨xs ++ news, ho, fun i hi => ?_⟩
  by_cases h : i < n
  · obtain ⟨v, h6, hO⟩ := hv i h
    exact ⟨v, h6.left, mv i v hO⟩
  · obtain ⟨v, h6, hO⟩ := hn
    obtain rfl : i = n := by omega
    refine ⟨v, ?_, mv i v hO⟩
    have := h6.right (xs := xs)
    rwa [hx.1] at this
theorem GrE.form {E : Nat → (Nat → Prop) → World → Value → Prop} {ty : TypeId} {F : Nat → Prop} {B : Nat} {w : World} {n : Nat} {sv : Value} (hE : Moves E) (hn : 0 < n) (h : GrE E ty F B w n sv) : ∃ g c, sv = .slice (some ⟨g, 0, none⟩) n c ∧ B ≤ g ∧ g < w.heap.size ∧ n ≤ c ∧ c ≤ maxLen ∧ ∀ i, i < n → ∃ v, At6 w g 0 i v ∧ E i F w v := by
  obtain ⟨xs, ho, hv⟩ := h
  rcases ho.2 with ⟨e1, e2⟩ | ⟨g, cap, cur, e1, e2, e3, e4, e5, _⟩
  · omega
  · refine ⟨g, cap, e1, e2, (Array.getElem?_eq_some_iff.1 e3).1, e4, e5, fun i hi => ?_⟩
    obtain ⟨v, h6, hO⟩ := hv i hi
    exact ⟨v, h6.at ho (by rw [e1]; rfl), hE i _ _ w w v hO (fun b hb _ => hb.1) fun _ _ _ => rfl⟩
theorem sl_same2 {w w' : World} {A : Option Addr} {c : Nat} {xs : List Value} {F : Nat → Prop} (h : Sl w A c xs) (hF : ∀ b off, A = some ⟨b, off, none⟩ → xs ≠ [] → F b) (hs : ∀ b, F b → b < w.heap.size → w'.heap[b]? = w.heap[b]?) : Sl w' A c xs := by
  refine ⟨h.cap, h.max, fun hx => ?_⟩
  obtain ⟨b, off, e, hc⟩ := h.at_ hx
  refine ⟨b, off, e, fun j u hu => ?_⟩
  have h1 := hc j u hu
  exact (World.cell?_of_block (w := w) (hs b (hF b off e hx) (block_lt_of_cell h1))).trans h1
theorem sl_lt2 {w : World} {A : Option Addr} {c : Nat} {xs : List Value} (h : Sl w A c xs) (hl : xs ≠ []) (b off : Nat) (e : A = some ⟨b, off, none⟩) : b < w.heap.size := by
  cases xs with
  | nil => exact absurd rfl hl
  | cons d l =>
    obtain ⟨b', off', e', hc⟩ := h.at_ (by simp)
    rw [e] at e'
    injection e' with e'
    injection e' with e'
    subst e'
    exact block_lt_of_cell (hc 0 d rfl)
/-- the list of ints of a node as it was given -/
def ints (zs : List Int) : List Value := zs.map fun z => .int .i64 z
/-- a node that has been made: the i-th of n -/
def ND (n : Nat) (i : Nat) (F : Nat → Prop) (w : World) (v : Value) : Prop :=
  ∃ (k : Int) (ng : Bool) (A : Option Addr) (c : Nat) (l : List Nat) (bits : Nat) (t : ByteArray) (KA : Option Addr) (kc : Nat) (ks : List Nat), v = .agg #[.int .i64 k, .bool ng, .slice A l.length c, .int .u64 (bits : Int), .string t, .slice KA ks.length kc] ∧ Sl w A c (by8 l) ∧ (∀ b off, A = some ⟨b, off, none⟩ → by8 l ≠ [] → F b) ∧ Sl w KA kc (i64s ks) ∧ (∀ b off, KA = some ⟨b, off, none⟩ → i64s ks ≠ [] → F b) ∧
    l.length ≤ 40 ∧ (∀ d, d ∈ l → d < 256) ∧ (k = 1 → bits ≤ 1) ∧ 0 ≤ k ∧ k ≤ 7 ∧ ks.length ≤ 8 ∧ (∀ d, d ∈ ks → d < n) ∧ (k ≠ 6 → ∀ d, d ∈ ks → d < i) ∧ (k ≠ 6 → k ≠ 7 → ks = [])
theorem ND.moves (n : Nat) : Moves (ND n) := fun i F F' w w' v ⟨k, ng, A, c, l, bits, t, KA, kc, ks, e, h1, h2, h3, h4, rest⟩ hF hs =>
  ⟨k, ng, A, c, l, bits, t, KA, kc, ks, e, sl_same2 h1 h2 hs, fun b off e hl => hF b (h2 b off e hl) (sl_lt2 h1 hl b off e), sl_same2 h3 h4 hs, fun b off e hl => hF b (h4 b off e hl) (sl_lt2 h3 hl b off e), rest⟩
/-- a node as it was given, of a kind that P admits -/
def RN (P : Int → Prop) (i : Nat) (F : Nat → Prop) (w : World) (v : Value) : Prop :=
  ∃ (x : Int) (ng : Bool) (A : Option Addr) (c : Nat) (l : List Nat) (bits : Nat) (t : ByteArray) (KA : Option Addr) (kc : Nat) (zs : List Int), v = .agg #[.int .i64 x, .bool ng, .slice A l.length c, .int .u64 (bits : Int), .string t, .slice KA zs.length kc] ∧ Sl w A c (by8 l) ∧ (∀ b off, A = some ⟨b, off, none⟩ → by8 l ≠ [] → F b) ∧ Sl w KA kc (ints zs) ∧ (∀ b off, KA = some ⟨b, off, none⟩ → ints zs ≠ [] → F b) ∧
    (∀ d, d ∈ l → d < 256) ∧ bits < 18446744073709551616 ∧ P x
theorem RN.moves (P : Int → Prop) : Moves (RN P) := fun i F F' w w' v ⟨k, ng, A, c, l, bits, t, KA, kc, ks, e, h1, h2, h3, h4, rest⟩ hF hs =>
  ⟨k, ng, A, c, l, bits, t, KA, kc, ks, e, sl_same2 h1 h2 hs, fun b off e hl => hF b (h2 b off e hl) (sl_lt2 h1 hl b off e), sl_same2 h3 h4 hs, fun b off e hl => hF b (h4 b off e hl) (sl_lt2 h3 hl b off e), rest⟩
theorem RN.below {P : Int → Prop} {i : Nat} {F : Nat → Prop} {w w' : World} {v : Value} (h : RN P i F w v) (hk : Kept w w') : RN P i F w' v :=
  RN.moves P i F F w w' v h (fun _ h _ => h) fun b _ hl => hk.block b hl
end Go.Proofs.YtoociokhldakbaaGreat
