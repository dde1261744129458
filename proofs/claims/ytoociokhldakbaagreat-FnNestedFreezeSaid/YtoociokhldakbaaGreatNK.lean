/- Made and given values in memory, and rows of values that grow. -/
import Derived.Test.YtoociokhldakbaaGreatNJ
import Derived.OwnWalk
import Derived.Deep.DeepMust
import Derived.Deep.AppendLies
namespace Go.Proofs.YtoociokhldakbaaGreat
open Go.ChangeShapes Go.WideShapes Go.ChangeAt Go.RowKit
set_option linter.unusedVariables false
/-- a value in six cells: kind k, sign, at most 40 bytes, bits, text, kids as P says; its bytes in a block of F -/
def OG6 (P : Option Addr → Nat → Nat → Prop) (F : Nat → Prop) (w : World) (k : Int) (v : Value) : Prop :=
  ∃ (ng : Bool) (A : Option Addr) (c : Nat) (l : List Nat) (bits : Nat) (t : ByteArray) (K : Option Addr) (kn kc : Nat), v = .agg #[.int .i64 k, .bool ng, .slice A l.length c, .int .u64 (bits : Int), .string t, .slice K kn kc] ∧ Sl w A c (by8 l) ∧ (∀ b off, A = some ⟨b, off, none⟩ → l ≠ [] → F b) ∧ l.length ≤ 40 ∧ (∀ d, d ∈ l → d < 256) ∧ (k = 1 → bits ≤ 1) ∧ bits < 18446744073709551616 ∧ 0 ≤ k ∧ k ≤ 9 ∧ kn ≤ 16 ∧ (k = 8 → kn % 2 = 0) ∧ P K kn kc
/-- kids of at most d-1 levels below them, in blocks of F -/
def KG (F : Nat → Prop) (w : World) : Nat → Option Addr → Nat → Nat → Prop
  | 0, _, kn, _ => kn = 0
  | d + 1, K, kn, _ => kn = 0 ∨ ∃ g, K = some ⟨g, 0, none⟩ ∧ F g ∧ ∀ i, i < kn → ∃ k v, At6 w g 0 i v ∧ OG6 (KG F w d) F w k v
/-- a made value of at most d levels below it, in blocks of F -/
def OG (F : Nat → Prop) (w : World) (d : Nat) (k : Int) (v : Value) : Prop := OG6 (KG F w d) F w k v
theorem sl_same {w w' : World} {A : Option Addr} {c : Nat} {l : List Nat} {F : Nat → Prop} (h : Sl w A c (by8 l)) (hF : ∀ b off, A = some ⟨b, off, none⟩ → l ≠ [] → F b) (hs : ∀ b, F b → b < w.heap.size → w'.heap[b]? = w.heap[b]?) : Sl w' A c (by8 l) := by
  refine ⟨h.cap, h.max, fun hx => ?_⟩
  obtain ⟨b, off, e, hc⟩ := h.at_ hx
  refine ⟨b, off, e, fun j u hu => ?_⟩
  have h1 := hc j u hu
  refine (World.cell?_of_block (w := w) (hs b (hF b off e fun e2 => hx (by rw [e2]; rfl)) (block_lt_of_cell h1))).trans h1
theorem sl_lt {w : World} {A : Option Addr} {c : Nat} {l : List Nat} (h : Sl w A c (by8 l)) (hl : l ≠ []) (b off : Nat) (e : A = some ⟨b, off, none⟩) : b < w.heap.size := by
  cases l with
  | nil => exact absurd rfl hl
  | cons d l =>
    obtain ⟨b', off', e', hc⟩ := h.at_ (by simp [by8])
    rw [e] at e'
    injection e' with e'
    injection e' with e'
    subst e'
    have := hc 0 _ (by simp [by8]; rfl)
    exact block_lt_of_cell this
theorem OG6.move {P Q : Option Addr → Nat → Nat → Prop} {F F' : Nat → Prop} {w w' : World} {k : Int} {v : Value} (h : OG6 P F w k v) (hF : ∀ b, F b → b < w.heap.size → F' b) (hs : ∀ b, F b → b < w.heap.size → w'.heap[b]? = w.heap[b]?) (hPQ : ∀ K n c, n ≤ 16 → P K n c → Q K n c) : OG6 Q F' w' k v := by
  obtain ⟨ng, A, c, l, bits, t, K, kn, kc, e, h1, h2, h3, h4, h5, h6, h7, h8, h9, h10, h11⟩ := h
  exact ⟨ng, A, c, l, bits, t, K, kn, kc, e, sl_same h1 h2 hs, fun b off e hl => hF b (h2 b off e hl) (sl_lt h1 hl b off e), h3, h4, h5, h6, h7, h8, h9, h10, hPQ _ _ _ h9 h11⟩
theorem KG.move {F F' : Nat → Prop} {w w' : World} (hF : ∀ b, F b → b < w.heap.size → F' b) (hs : ∀ b, F b → b < w.heap.size → w'.heap[b]? = w.heap[b]?) : ∀ (d : Nat) (K : Option Addr) (n c : Nat), KG F w d K n c → KG F' w' d K n c
  | 0, _, _, _, h => h
  | d + 1, K, n, c, h => by
    rcases h with h | ⟨g, e, hg, h⟩
    · exact .inl h
    · by_cases hn : n = 0
      · exact .inl hn
      · obtain ⟨_, _, h0, _⟩ := h 0 (by omega)
        refine .inr ⟨g, e, hF g hg h0.lt, fun i hi => ?_⟩
        obtain ⟨k, v, ha, ho⟩ := h i hi
        exact ⟨k, v, ha.same (hs g hg ha.lt), ho.move hF hs fun K n c _ hk => KG.move hF hs d K n c hk⟩
theorem OG.move {F F' : Nat → Prop} {w w' : World} {d : Nat} {k : Int} {v : Value} (h : OG F w d k v) (hF : ∀ b, F b → b < w.heap.size → F' b) (hs : ∀ b, F b → b < w.heap.size → w'.heap[b]? = w.heap[b]?) : OG F' w' d k v :=
  OG6.move h hF hs fun K n c _ => KG.move hF hs d K n c
theorem OG.below {F : Nat → Prop} {w w' : World} {d : Nat} {k : Int} {v : Value} (h : OG F w d k v) (hb : Kept w w') : OG F w' d k v :=
  h.move (fun _ h _ => h) fun b _ hl => hb.block b hl
theorem OG.weak {F F' : Nat → Prop} {w : World} {d : Nat} {k : Int} {v : Value} (h : OG F w d k v) (hF : ∀ b, F b → F' b) : OG F' w d k v :=
  h.move (fun b h _ => hF b h) fun _ _ _ => rfl
theorem KG.below {F : Nat → Prop} {w w' : World} {d : Nat} {K : Option Addr} {n c : Nat} (h : KG F w d K n c) (hb : Kept w w') : KG F w' d K n c :=
  KG.move (fun _ h _ => h) (fun b _ hl => hb.block b hl) d K n c h
theorem KG.weak {F F' : Nat → Prop} {w : World} {d : Nat} {K : Option Addr} {n c : Nat} (h : KG F w d K n c) (hF : ∀ b, F b → F' b) : KG F' w d K n c :=
  KG.move (fun b h _ => hF b h) (fun _ _ _ => rfl) d K n c h
theorem Flat.og {B : Nat} {w : World} {k : Int} {v : Value} (h : Flat B w k v) (d : Nat) : OG (fun b => B ≤ b) w d k v := by
  obtain ⟨ng, A, c, l, bits, t, K, kn, kc, e, h1, h2, h3, h4, h5, h6, h7, h8, h9, h10, h11, h12, h13⟩ := h
  refine ⟨ng, A, c, l, bits, t, K, kn, kc, e, h1, fun b off e _ => h2 b off e, h3, h4, h5, h6, h7, h8, h9, h10, ?_⟩
  cases d with
  | zero => exact h12
  | succ d => exact .inl h12
/-- the six cells of a list's values from place o on -/
def Six (xs : List Value) (o : Nat) (v : Value) : Prop :=
  ∃ u0 u1 u2 u3 u4 u5, v = .agg #[u0, u1, u2, u3, u4, u5] ∧ xs[o]? = some u0 ∧ xs[o + 1]? = some u1 ∧ xs[o + 2]? = some u2 ∧ xs[o + 3]? = some u3 ∧ xs[o + 4]? = some u4 ∧ xs[o + 5]? = some u5
theorem Six.left {xs ys : List Value} {o : Nat} {v : Value} (h : Six xs o v) : Six (xs ++ ys) o v := by
  obtain ⟨u0, u1, u2, u3, u4, u5, e, h0, h1, h2, h3, h4, h5⟩ := h
  have hl : ∀ j u, xs[j]? = some u → (xs ++ ys)[j]? = some u := fun j u hj => by
    rw [List.getElem?_append_left (List.getElem?_eq_some_iff.1 hj).1]
    exact hj
  exact ⟨u0, u1, u2, u3, u4, u5, e, hl _ _ h0, hl _ _ h1, hl _ _ h2, hl _ _ h3, hl _ _ h4, hl _ _ h5⟩
theorem Six.right {xs ys : List Value} {o : Nat} {v : Value} (h : Six ys o v) : Six (xs ++ ys) (xs.length + o) v := by
  obtain ⟨u0, u1, u2, u3, u4, u5, e, h0, h1, h2, h3, h4, h5⟩ := h
  have hl : ∀ j u, ys[j]? = some u → (xs ++ ys)[xs.length + j]? = some u := fun j u hj => by
    rw [List.getElem?_append_right (by omega), Nat.add_sub_cancel_left]
    exact hj
  exact ⟨u0, u1, u2, u3, u4, u5, e, hl _ _ h0, by rw [Nat.add_assoc]; exact hl _ _ h1, by rw [Nat.add_assoc]; exact hl _ _ h2, by rw [Nat.add_assoc]; exact hl _ _ h3, by rw [Nat.add_assoc]; exact hl _ _ h4, by rw [Nat.add_assoc]; exact hl _ _ h5⟩
theorem addr0 (g j : Nat) : (⟨g, 0, none⟩ : Addr).add j = ⟨g, 0 + j, none⟩ := by
  by_cases h0 : j = 0 <;> simp [Addr.add, h0]
theorem Six.at {w : World} {B e n g : Nat} {v' v : Value} {xs : List Value} {i : Nat} (h : Six xs (i * 6) v) (ho : w.ownsRow B e 6 v' n xs) (hg : v'.ownBlock = some g) : At6 w g 0 i v := by
  obtain ⟨u0, u1, u2, u3, u4, u5, e, h0, h1, h2, h3, h4, h5⟩ := h
  have hc : ∀ j u, xs[j]? = some u → w.cell? ⟨g, 0 + j, none⟩ = some u := fun j u hj => by
    rw [← addr0]
    exact ho.cells hg j u hj
  exact ⟨u0, u1, u2, u3, u4, u5, e, hc _ _ h0, hc _ _ h1, hc _ _ h2, hc _ _ h3, hc _ _ h4, hc _ _ h5⟩
/-- a row of the call's own that n values of at most d levels have been put into; their blocks are not the row's -/
def Gro (B : Nat) (w : World) (d n : Nat) (sv : Value) : Prop :=
  ∃ xs, w.ownsRow B 33 6 sv n xs ∧ ∀ i, i < n → ∃ k v, Six xs (i * 6) v ∧ OG (fun b => B ≤ b ∧ sv.ownBlock ≠ some b) w d k v
theorem Gro.start (B : Nat) (w : World) (d : Nat) : Gro B w d 0 (.slice none 0 0) := ⟨[], World.ownsRow_nil _ _ _ _, fun i hi => absurd hi (by omega)⟩
theorem Gro.move {B : Nat} {w w' : World} {d n : Nat} {sv : Value} (h : Gro B w d n sv) (hs : ∀ b, B ≤ b → b < w.heap.size → w'.heap[b]? = w.heap[b]?) : Gro B w' d n sv := by
  obtain ⟨xs, ho, hv⟩ := h
  refine ⟨xs, ⟨ho.1, ?_⟩, fun i hi => ?_⟩
  · rcases ho.2 with h2 | ⟨g, cap, cur, e1, e2, e3, e4⟩
    · exact .inl h2
    · exact .inr ⟨g, cap, cur, e1, e2, (hs g e2 (Array.getElem?_eq_some_iff.1 e3).1).trans e3, e4⟩
  · obtain ⟨k, v, h6, ho⟩ := hv i hi
    exact ⟨k, v, h6, ho.move (fun _ h _ => h) fun b hb hl => hs b hb.1 hl⟩
theorem Gro.below {B : Nat} {w w' : World} {d n : Nat} {sv : Value} (h : Gro B w d n sv) (hb : Kept w w') : Gro B w' d n sv :=
  h.move fun b _ hl => hb.block b hl
theorem Gro.setRow {B : Nat} {w : World} {d n : Nat} {sv : Value} (h : Gro B w d n sv) {b : Nat} (hb : b < B) (cs : Array Value) : Gro B (w.setRow b cs) d n sv :=
  h.move fun b' hB _ => setRow_other w b b' cs (by omega)
/-- m values more -/
theorem Gro.push {B : Nat} {w w' : World} {d n m g cap : Nat} {sv : Value} {xs news : List Value} (hx : w.ownsRow B 33 6 sv n xs) (hv : ∀ i, i < n → ∃ k v, Six xs (i * 6) v ∧ OG (fun b => B ≤ b ∧ sv.ownBlock ≠ some b) w d k v)
    (ho : w'.ownsRow B 33 6 (.slice (some ⟨g, 0, none⟩) (n + m) cap) (n + m) (xs ++ news)) (hg : w.grownBy w' sv.ownBlock) (hat : sv.ownBlock = some g ∨ g = w.heap.size)
    (hn : ∀ j, j < m → ∃ k v, Six news (j * 6) v ∧ OG (fun b => B ≤ b ∧ sv.ownBlock ≠ some b) w d k v) : Gro B w' d (n + m) (.slice (some ⟨g, 0, none⟩) (n + m) cap) := by
  have mv : ∀ k v, OG (fun b => B ≤ b ∧ sv.ownBlock ≠ some b) w d k v → OG (fun b => B ≤ b ∧ (Value.slice (some ⟨g, 0, none⟩) (n + m) cap).ownBlock ≠ some b) w' d k v := fun k v h => by
    refine h.move (fun b hb hl => ⟨hb.1, fun e => ?_⟩) (fun b hb hl => hg.block b hl fun e => hb.2 e.symm)
    have e : g = b := by simpa [Value.ownBlock] using e
    subst e
    rcases hat with h1 | h1
    · exact hb.2 h1
    · omega
  refine ⟨xs ++ news, ho, fun i hi => ?_⟩
  by_cases h : i < n
  · obtain ⟨k, v, h6, hO⟩ := hv i h
    exact ⟨k, v, h6.left, mv k v hO⟩
  · obtain ⟨k, v, h6, hO⟩ := hn (i - n) (by omega)
    refine ⟨k, v, ?_, mv k v hO⟩
    have := h6.right (xs := xs)
    rw [hx.1] at this
    have e : n * 6 + (i - n) * 6 = i * 6 := by omega
    rwa [e] at this
theorem Gro.form {B : Nat} {w : World} {d n : Nat} {sv : Value} (h : Gro B w d n sv) : ∃ K c, sv = .slice K n c ∧ KG (fun b => B ≤ b) w (d + 1) K n c := by
  obtain ⟨xs, ho, hv⟩ := h
  rcases ho.2 with ⟨e1, e2⟩ | ⟨g, cap, cur, e1, e2, e3, e4⟩
  · subst e2
    exact ⟨none, 0, e1, .inl rfl⟩
  · refine ⟨_, cap, e1, .inr ⟨g, rfl, e2, fun i hi => ?_⟩⟩
    obtain ⟨k, v, h6, hO⟩ := hv i hi
    exact ⟨k, v, h6.at ho (by rw [e1]; rfl), OG.weak hO fun b hb => hb.1⟩
theorem Gro.lt {B : Nat} {w : World} {d n : Nat} {sv : Value} (h : Gro B w d n sv) : ∀ k, sv.ownBlock = some k → B ≤ k ∧ k < w.heap.size := by
  obtain ⟨xs, ho, _⟩ := h
  exact ho.lt
theorem own_kept6 {W w1 : World} {B e z n : Nat} {v : Value} {xs : List Value} {w : World} (hb : Kept w W) (hown : W.ownsRow B e z v n xs) (hB : w.heap.size ≤ B) (hg : W.grownBy w1 v.ownBlock) : Kept w w1 :=
  Below.grown hb hg hb.size (fun k hk => Nat.le_trans hB (hown.lt k hk).1)
/-- a readable value as it was given: of its kids what P says -/
def R6 (P : Option Addr → Nat → Prop) (w : World) (x : Int) (v : Value) : Prop :=
  ∃ (ng : Bool) (A : Option Addr) (c : Nat) (l : List Nat) (bits : Nat) (t : ByteArray) (K : Option Addr) (kn kc : Nat), v = .agg #[.int .i64 x, .bool ng, .slice A l.length c, .int .u64 (bits : Int), .string t, .slice K kn kc] ∧ Sl w A c (by8 l) ∧ (∀ d, d ∈ l → d < 256) ∧ bits < 18446744073709551616 ∧ kn ≤ 9223372036854775807 ∧ P K kn
def RK (w : World) : Nat → Option Addr → Nat → Prop
  | 0, _, _ => True
  | d + 1, K, kn => ∀ i, i < kn → ∃ g o x v, K = some ⟨g, o, none⟩ ∧ At6 w g o i v ∧ R6 (RK w d) w x v
/-- a given value, readable d levels down -/
def RV (w : World) (d : Nat) (x : Int) (v : Value) : Prop := R6 (RK w d) w x v
theorem R6.move {P Q : Option Addr → Nat → Prop} {w w' : World} {x : Int} {v : Value} (h : R6 P w x v) (hb : Kept w w') (hPQ : ∀ K n, P K n → Q K n) : R6 Q w' x v := by
  obtain ⟨ng, A, c, l, bits, t, K, kn, kc, e, h1, h2, h3, h4, h5⟩ := h
  exact ⟨ng, A, c, l, bits, t, K, kn, kc, e, h1.below hb, h2, h3, h4, hPQ _ _ h5⟩
theorem RK.below {w w' : World} (hb : Kept w w') : ∀ (d : Nat) (K : Option Addr) (n : Nat), RK w d K n → RK w' d K n
  | 0, _, _, _ => trivial
  | d + 1, K, n, h => fun i hi => by
    obtain ⟨g, o, x, v, e, ha, hr⟩ := h i hi
    exact ⟨g, o, x, v, e, ha.below hb, hr.move hb fun K n => RK.below hb d K n⟩
theorem RV.below {w w' : World} {d : Nat} {x : Int} {v : Value} (h : RV w d x v) (hb : Kept w w') : RV w' d x v :=
  R6.move h hb fun K n => RK.below hb d K n
theorem RV.zero {w : World} {d : Nat} {x : Int} {v : Value} (h : RV w d x v) : RV w 0 x v := by
  obtain ⟨ng, A, c, l, bits, t, K, kn, kc, e, h1, h2, h3, h4, h5⟩ := h
  exact ⟨ng, A, c, l, bits, t, K, kn, kc, e, h1, h2, h3, h4, trivial⟩
theorem OG.rv {F : Nat → Prop} {w : World} {d : Nat} {k : Int} {v : Value} (h : OG F w d k v) : RV w 0 k v := by
  obtain ⟨ng, A, c, l, bits, t, K, kn, kc, e, h1, h2, h3, h4, h5, h6, h7, h8, h9, h10, h11⟩ := h
  exact ⟨ng, A, c, l, bits, t, K, kn, kc, e, h1, h4, h6, by omega, trivial⟩
/-- what a call of Clean at depth d gives back -/
def RetOG (w : World) (d : Nat) (k : Int) (e : Ending) (w' : World) : Prop := (∃ v, e = .returned v ∧ OG (fun b => w.heap.size ≤ b) w' d k v) ∧ Kept w w'
end Go.Proofs.YtoociokhldakbaaGreat
