/- Values made of their kids, in memory. -/
import Derived.Test.YtoociokhldakbaaGreatOC
import Derived.OwnWalk
import Derived.Deep.DeepMust
import Derived.Deep.AppendLies
import Derived.Deep.RegionHeld3
import Derived.Orders
namespace Go.Proofs.YtoociokhldakbaaGreat
open Go.ChangeShapes Go.WideShapes Go.ChangeAt Go.RowKit
set_option linter.unusedVariables false
/-- the blocks below B are the same -/
def Same (B : Nat) (w X : World) : Prop := ∀ i, i < B → X.heap[i]? = w.heap[i]?
theorem Same.cell {B : Nat} {w X : World} (h : Same B w X) {p : Addr} (hp : p.block < B) {v : Value} (hv : w.cell? p = some v) : X.cell? p = some v := (World.cell?_of_block (h _ hp)).trans hv
theorem Same.of_kept {B : Nat} {w X : World} (h : Kept w X) (hB : B ≤ w.heap.size) : Same B w X := fun i hi => h.block i (by omega)
theorem Same.trans {B : Nat} {w X Y : World} (h : Same B w X) (h' : Same B X Y) : Same B w Y := fun i hi => (h' i hi).trans (h i hi)
theorem cells_new (w : World) (cs : Array Value) (t : TypeId) : ∀ (j : Nat) (u : Value), cs.toList[j]? = some u → (w.alloc (.cells cs t)).cell? ((⟨w.heap.size, 0, none⟩ : Addr).add j) = some u := fun j u hu => by
  rw [addr0, Nat.zero_add, cell_of_row _ _ j _ _ _ (heap_alloc_new w _)]
  rw [← hu]
  simp
/-- a row of the call's own that n values of at most d levels have been put into, in blocks of F that are not the row's -/
def GrF (F : Nat → Prop) (B : Nat) (w : World) (d n : Nat) (sv : Value) : Prop :=
  ∃ xs, w.ownsRow B 33 6 sv n xs ∧ ∀ i, i < n → ∃ k v, Six xs (i * 6) v ∧ OG (fun b => F b ∧ sv.ownBlock ≠ some b) w d k v
theorem GrF.start (F : Nat → Prop) (B : Nat) (w : World) (d : Nat) : GrF F B w d 0 (.slice none 0 0) := ⟨[], World.ownsRow_nil _ _ _ _, fun i hi => absurd hi (by omega)⟩
theorem GrF.move {F : Nat → Prop} {B : Nat} {w w' : World} {d n : Nat} {sv : Value} (h : GrF F B w d n sv) (hs : ∀ b, F b ∨ B ≤ b → b < w.heap.size → w'.heap[b]? = w.heap[b]?) : GrF F B w' d n sv := by
  obtain ⟨xs, ho, hv⟩ := h
  refine ⟨xs, ⟨ho.1, ?_⟩, fun i hi => ?_⟩
  · rcases ho.2 with h2 | ⟨g, cap, cur, e1, e2, e3, e4⟩
    · exact .inl h2
    · exact .inr ⟨g, cap, cur, e1, e2, (hs g (.inr e2) (Array.getElem?_eq_some_iff.1 e3).1).trans e3, e4⟩
  · obtain ⟨k, v, h6, ho⟩ := hv i hi
    exact ⟨k, v, h6, ho.move (fun _ h _ => h) fun b hb hl => hs b (.inl hb.1) hl⟩
theorem GrF.push {F : Nat → Prop} {B : Nat} {w w' : World} {d n m g cap : Nat} {sv : Value} {xs news : List Value} (hx : w.ownsRow B 33 6 sv n xs) (hv : ∀ i, i < n → ∃ k v, Six xs (i * 6) v ∧ OG (fun b => F b ∧ sv.ownBlock ≠ some b) w d k v)
    (ho : w'.ownsRow B 33 6 (.slice (some ⟨g, 0, none⟩) (n + m) cap) (n + m) (xs ++ news)) (hg : w.grownBy w' sv.ownBlock) (hat : sv.ownBlock = some g ∨ g = w.heap.size)
    (hn : ∀ j, j < m → ∃ k v, Six news (j * 6) v ∧ OG (fun b => F b ∧ sv.ownBlock ≠ some b) w d k v) : GrF F B w' d (n + m) (.slice (some ⟨g, 0, none⟩) (n + m) cap) := by
  have mv : ∀ k v, OG (fun b => F b ∧ sv.ownBlock ≠ some b) w d k v → OG (fun b => F b ∧ (Value.slice (some ⟨g, 0, none⟩) (n + m) cap).ownBlock ≠ some b) w' d k v := fun k v h => by
    refine h.move (fun b hb hl => ⟨hb.1, fun e => ?_⟩) (fun b hb hl => hg.block b hl fun e => hb.2 e.symm)
    have e : g = b := by simpa [Value.ownBlock] using e
    subst e
    rcases hat with h1 | h1
    · exact hb.2 h1
    · omega
  refine ⟨xs ++ news, ho, fun i hi => ?_⟩
  by_cases h : i < n
  · obtain ⟨k, v, h6, hO⟩ := hv i h
    exact ⟨k, v, h6.left, mv k v hO⟩
  · obtain ⟨k, v, h6, hO⟩ := hn (i - n) (by omega)
    refine ⟨k, v, ?_, mv k v hO⟩
    have := h6.right (xs := xs)
    rw [hx.1] at this
    have e : n * 6 + (i - n) * 6 = i * 6 := by omega
    rwa [e] at this
theorem GrF.form {F : Nat → Prop} {B : Nat} {w : World} {d n : Nat} {sv : Value} (h : GrF F B w d n sv) : ∃ K c, sv = .slice K n c ∧ KG (fun b => F b ∨ B ≤ b) w (d + 1) K n c := by
  obtain ⟨xs, ho, hv⟩ := h
  rcases ho.2 with ⟨e1, e2⟩ | ⟨g, cap, cur, e1, e2, e3, e4⟩
  · subst e2
    exact ⟨none, 0, e1, .inl rfl⟩
  · refine ⟨_, cap, e1, .inr ⟨g, rfl, .inr e2, fun i hi => ?_⟩⟩
    obtain ⟨k, v, h6, hO⟩ := hv i hi
    exact ⟨k, v, h6.at ho (by rw [e1]; rfl), OG.weak hO fun b hb => .inl hb.1⟩
/-- a value that is made of its kids: its cells in block b, of kind k, and n kids so far -/
def GW (W : World) (F : Nat → Prop) (b : Nat) (k : Int) (wr : World) (d n : Nat) (sv : Value) : Prop :=
  Kept W wr ∧ Blk wr b 33 #[.int .i64 k, .bool false, .slice none 0 0, .int .u64 0, .string ⟨#[]⟩, sv] ∧ GrF F (b + 1) wr d n sv ∧ W.heap.size ≤ b ∧ ∀ c, F c → c ≠ b
theorem GW.below {W w w' : World} {F : Nat → Prop} {b : Nat} {k : Int} {d n : Nat} {sv : Value} (h : GW W F b k w d n sv) (hk : Kept w w') : GW W F b k w' d n sv :=
  ⟨h.1.trans hk, Blk.below h.2.1 hk, h.2.2.1.move fun c _ hl => hk.block c hl, h.2.2.2⟩
theorem GW.start (W : World) (F : Nat → Prop) (k : Int) (d : Nat) (hF : ∀ c, F c → c ≠ W.heap.size) : GW W F W.heap.size k (W.alloc (.cells #[.int .i64 k, .bool false, .slice none 0 0, .int .u64 0, .string ⟨#[]⟩, .slice none 0 0] 33)) d 0 (.slice none 0 0) :=
  ⟨(Below.refl _ _).alloc (Nat.le_refl _) _, Blk.new _ _ _, GrF.start _ _ _ _, Nat.le_refl _, hF⟩
/-- the world behind an append and the store of the longer row -/
theorem GW.step {W w4 w5 : World} {F : Nat → Prop} {b : Nat} {k : Int} {d n m g cap : Nat} {sv : Value} {xs news : List Value} (h : GW W F b k w4 d n sv) (hx : w4.ownsRow (b + 1) 33 6 sv n xs) (hv : ∀ i, i < n → ∃ k v, Six xs (i * 6) v ∧ OG (fun c => F c ∧ sv.ownBlock ≠ some c) w4 d k v)
    (ho : w5.ownsRow (b + 1) 33 6 (.slice (some ⟨g, 0, none⟩) (n + m) cap) (n + m) (xs ++ news)) (hg : w4.grownBy w5 sv.ownBlock) (hat : sv.ownBlock = some g ∨ g = w4.heap.size)
    (hn : ∀ j, j < m → ∃ k v, Six news (j * 6) v ∧ OG (fun c => F c ∧ sv.ownBlock ≠ some c) w4 d k v) :
    w5.cell? ⟨b, 5, none⟩ = some sv ∧ w5.frozen? ⟨b, 5, none⟩ = false ∧ Same (b + 1) w4 w5 ∧ GW W F b k (w5.setCell ⟨b, 5, none⟩ (.slice (some ⟨g, 0, none⟩) (n + m) cap)) d (n + m) (.slice (some ⟨g, 0, none⟩) (n + m) cap) := by
  have hne : sv.ownBlock ≠ some b := fun e => by have := (hx.lt b e).1; omega
  have hb5 : Blk w5 b 33 #[.int .i64 k, .bool false, .slice none 0 0, .int .u64 0, .string ⟨#[]⟩, sv] := (hg.block b h.2.1.lt fun e => hne e.symm).trans h.2.1
  have hgr := GrF.push hx hv ho hg hat hn
  refine ⟨hb5.cell 5, hb5.frozen 5, fun i hi => hg.block i ?_ fun e => ?_, ?_, Blk.set hb5 5 _, ?_, h.2.2.2⟩
  · have := h.2.1.lt; omega
  · have := (hx.lt i e.symm).1; omega
  · have h1 : Kept W w5 := Below.grown h.1 hg h.1.size fun c hc => by have := (hx.lt c hc).1; have := h.2.2.2.1; omega
    exact ⟨h1.os, h1.tape, h1.output, by simpa [World.setCell] using h1.size, fun i hi => (Below.heap_setCell w5 ⟨b, 5, none⟩ _ i (by have := h.2.2.2.1; simp only; omega)).trans (h1.block i hi)⟩
  · exact hgr.move fun c hc _ => Below.heap_setCell w5 ⟨b, 5, none⟩ _ c (by
      rcases hc with hc | hc
      · exact h.2.2.2.2 c hc
      · simp only; omega)
/-- the six cells of a value written out -/
theorem six_lit (u0 u1 u2 u3 u4 u5 : Value) : Six [u0, u1, u2, u3, u4, u5] 0 (.agg #[u0, u1, u2, u3, u4, u5]) := ⟨u0, u1, u2, u3, u4, u5, rfl, rfl, rfl, rfl, rfl, rfl, rfl⟩
/-- a value that has been made is not in the row, nor in another block than those of F -/
theorem OG.apart {F F' : Nat → Prop} {w3 w4 : World} {d : Nat} {k : Int} {v sv : Value} (h : OG F' w3 d k v) (hF : ∀ c, F' c → c < w3.heap.size → F c ∧ sv.ownBlock ≠ some c) (hk : Kept w3 w4) : OG (fun c => F c ∧ sv.ownBlock ≠ some c) w4 d k v :=
  h.move hF fun b _ hl => hk.block b hl
/-- what has been made, as a value -/
theorem GW.value {W w : World} {F : Nat → Prop} {b : Nat} {k : Int} {d n : Nat} {sv : Value} (h : GW W F b k w d n sv) (hk0 : 6 ≤ k) (hk9 : k ≤ 9) (hn : n ≤ 16) (hev : k = 8 → n % 2 = 0) : ∃ K c, sv = .slice K n c ∧ OG (fun i => F i ∨ b + 1 ≤ i) w (d + 1) k (.agg #[.int .i64 k, .bool false, .slice none 0 0, .int .u64 0, .string ⟨#[]⟩, .slice K n c]) := by
  obtain ⟨K, c, e, hK⟩ := h.2.2.1.form
  exact ⟨K, c, e, false, none, 0, [], 0, ⟨#[]⟩, K, n, c, rfl, Sl.nil w, (fun b off e => by cases e), Nat.zero_le _, (fun d hd => by cases hd), (fun h => by omega), by decide, by omega, hk9, hn, hev, hK⟩
/-- the value behind the store of the result in its own block -/
theorem OG.stored {F : Nat → Prop} {w : World} {d : Nat} {k : Int} {v : Value} (h : OG F w d k v) {b : Nat} (hF : ∀ c, F c → c ≠ b) (cs : Array Value) : OG F (w.setRow b cs) d k v :=
  h.move (fun _ h _ => h) fun c hc _ => setRow_other w b c cs (hF c hc)
/-- with no kids a value is of any depth -/
theorem OG.nokids {F : Nat → Prop} {w : World} {d : Nat} {k : Int} {k' : Int} {ng : Bool} {A K : Option Addr} {m c : Nat} {q : Int} {t : ByteArray} {kc : Nat} (h : OG F w d k (.agg #[.int .i64 k', .bool ng, .slice A m c, .int .u64 q, .string t, .slice K 0 kc])) (d' : Nat) : OG F w d' k (.agg #[.int .i64 k', .bool ng, .slice A m c, .int .u64 q, .string t, .slice K 0 kc]) := by
  obtain ⟨ng, A, c, l, bits, t, K, kn, kc, e, h1, h2, h3, h4, h5, h6, h7, h8, h9, h10, h11⟩ := h
  have e0 : kn = 0 := by
    injection e with e
    injection e with e
    injection e with _ e; injection e with _ e; injection e with _ e; injection e with _ e; injection e with _ e; injection e with e _
    injection e with _ e _
    exact e.symm
  subst e0
  refine ⟨ng, A, c, l, bits, t, K, 0, kc, e, h1, h2, h3, h4, h5, h6, h7, h8, h9, h10, ?_⟩
  cases d' with
  | zero => exact rfl
  | succ d => exact .inl rfl
end Go.Proofs.YtoociokhldakbaaGreat
