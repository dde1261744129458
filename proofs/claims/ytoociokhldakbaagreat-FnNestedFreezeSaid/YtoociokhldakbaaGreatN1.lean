/- A graph of the package's values in memory; what is reached. -/
import Derived.Test.YtoociokhldakbaaGreatIa
import Derived.Laws.EntriesVeiled
namespace Go.Proofs.YtoociokhldakbaaGreat
open Go.ChangeShapes Go.WideShapes Go.ChangeAt Go.RowKit
set_option linter.unusedVariables false
/-- a node of a graph of the package's values: a list in block b, its elements at A; a tuple; a value without parts -/
inductive NK where
  | list (b : Nat) (A : Option Addr) (c : Nat)
  | tup (A : Option Addr) (c : Nat)
  | sc (v : Value)
/-- the node as a value, of m elements -/
def NK.val : NK → Nat → Value
  | .list b _ _, _ => .iface 55 (.pointer (some ⟨b, 0, none⟩))
  | .tup A c, m => .iface 68 (.slice A m c)
  | .sc v, _ => v
/-- a value without parts -/
def ScOk (v : Value) : Prop :=
  v = .iface 69 (.int .u8 0) ∨ (∃ b, v = .iface 70 (.bool b)) ∨ (∃ x p, v = .iface 75 (.agg #[.int .i64 x, .pointer p])) ∨ (∃ b, v = .iface 78 (.float .f64 b)) ∨
    (∃ s, v = .iface 80 (.string s)) ∨ (∃ s, v = .iface 81 (.string s))
section
variable (n : Nat) (kd : Nat → NK) (ks : Nat → List Nat)
/-- node k is done with: a list that is frozen; a tuple of such; a value without parts -/
inductive Dn (F : Nat → Bool) : Nat → Prop
  | list {k b A c} : kd k = .list b A c → F k = true → Dn F k
  | tup {k A c} : kd k = .tup A c → (∀ d, d ∈ ks k → Dn F d) → Dn F k
  | sc {k v} : kd k = .sc v → Dn F k
/-- node i is reached from node k -/
inductive Rch : Nat → Nat → Prop
  | refl {k} : Rch k k
  | step {k d i} : d ∈ ks k → Rch d i → Rch k i
/-- the graph stands in memory; F: which lists are frozen -/
structure Shp (w : World) (F : Nat → Bool) : Prop where
  kid : ∀ i, i < n → ∀ k, k ∈ ks i → k < n
  len : ∀ i, i < n → (ks i).length ≤ 1000000
  low : ∀ i, i < n → ∀ A c, kd i = .tup A c → ∀ k, k ∈ ks i → k < i
  lst : ∀ i, i < n → ∀ b A c, kd i = .list b A c → Blk w b 85 #[.slice A (ks i).length c, .bool (F i), .int .u32 0] ∧ Sl w A c ((ks i).map fun k => (kd k).val (ks k).length) ∧ ∀ g off, A = some ⟨g, off, none⟩ → ∀ j, j < n → ∀ b' A' c', kd j = .list b' A' c' → g ≠ b'
  tup : ∀ i, i < n → ∀ A c, kd i = .tup A c → Sl w A c ((ks i).map fun k => (kd k).val (ks k).length) ∧ ∀ g off, A = some ⟨g, off, none⟩ → ∀ j, j < n → ∀ b' A' c', kd j = .list b' A' c' → g ≠ b'
  inj : ∀ i, i < n → ∀ j, j < n → ∀ b A c A' c', kd i = .list b A c → kd j = .list b A' c' → i = j
  sc : ∀ i, i < n → ∀ v, kd i = .sc v → ScOk v ∧ ks i = []
/-- nothing but the lists' blocks has changed -/
structure OnlyL (w w' : World) : Prop where
  os : w'.os = w.os
  tape : w'.tape = w.tape
  output : w'.output = w.output
  size : w.heap.size ≤ w'.heap.size
  block : ∀ b, b < w.heap.size → (∀ i, i < n → ∀ A c, kd i ≠ .list b A c) → w'.heap[b]? = w.heap[b]?
/-- node k has been frozen, F before, F' behind -/
structure Frz (F F' : Nat → Bool) (k : Nat) : Prop where
  up : ∀ i, F i = true → F' i = true
  new : ∀ i, F' i = true → F i = true ∨ Rch ks k i
  done : Dn kd ks F' k
  closed : ∀ i, i < n → F' i = true → F i = false → ∀ d, d ∈ ks i → Dn kd ks F' d
/-- how many lists are not frozen -/
def unf (F : Nat → Bool) : Nat := ((List.range n).filter fun i => (match kd i with | .list .. => true | _ => false) && !F i).length
end
section
variable {n : Nat} {kd : Nat → NK} {ks : Nat → List Nat}
theorem OnlyL.refl (w : World) : OnlyL n kd w w := ⟨rfl, rfl, rfl, Nat.le_refl _, fun _ _ _ => rfl⟩
theorem OnlyL.trans {a b c : World} (h : OnlyL n kd a b) (k : OnlyL n kd b c) : OnlyL n kd a c :=
  ⟨k.os.trans h.os, k.tape.trans h.tape, k.output.trans h.output, Nat.le_trans h.size k.size, fun i hi hn => (k.block i (Nat.lt_of_lt_of_le hi h.size) hn).trans (h.block i hi hn)⟩
theorem Dn.mono {F F' : Nat → Bool} (h : ∀ i, F i = true → F' i = true) {k : Nat} (hd : Dn kd ks F k) : Dn kd ks F' k := by
  induction hd with
  | list h1 h2 => exact .list h1 (h _ h2)
  | tup h1 _ ih => exact .tup h1 ih
  | sc h1 => exact .sc h1
theorem Rch.trans {a b c : Nat} (h : Rch ks a b) (k : Rch ks b c) : Rch ks a c := by
  induction h with
  | refl => exact k
  | step h1 _ ih => exact .step h1 (ih k)
theorem Rch.lt {w : World} {F : Nat → Bool} (h : Shp n kd ks w F) {a b : Nat} (hr : Rch ks a b) (ha : a < n) : b < n := by
  induction hr with
  | refl => exact ha
  | step h1 _ ih => exact ih (h.kid _ ha _ h1)
/-- behind the freezing of r, with nothing frozen before, the lists that are frozen are those that are reached from r -/
theorem Frz.reach {w : World} {F' : Nat → Bool} {r : Nat} (hs : Shp n kd ks w F') (hr : r < n) (h : Frz n kd ks (fun _ => false) F' r) (i : Nat) (hi : i < n) {b : Nat} {A : Option Addr} {c : Nat} (hk : kd i = .list b A c) : F' i = true ↔ Rch ks r i := by
  constructor
  · intro hf
    rcases h.new i hf with h1 | h1
    · cases h1
    · exact h1
  · intro hrch
    have key : ∀ a b', Rch ks a b' → a < n → Dn kd ks F' a → Dn kd ks F' b' := by
      intro a b' hab
      induction hab with
      | refl => exact fun _ hd => hd
      | step h1 _ ih =>
        intro ha hd
        refine ih (hs.kid _ ha _ h1) ?_
        cases hd with
        | list h2 h3 => exact h.closed _ ha h3 rfl _ h1
        | tup h2 h3 => exact h3 _ h1
        | sc h2 =>
          rw [(hs.sc _ ha _ h2).2] at h1
          cases h1
    have hd := key r i hrch hr h.done
    cases hd with
    | list h2 h3 => exact h3
    | tup h2 _ => rw [hk] at h2; cases h2
    | sc h2 => rw [hk] at h2; cases h2
theorem unf_lt {F : Nat → Bool} {i : Nat} (hi : i < n) {b : Nat} {A : Option Addr} {c : Nat} (hk : kd i = .list b A c) (hF : F i = false) {F' : Nat → Bool} (hu : ∀ j, F j = true → F' j = true) (hF' : F' i = true) : unf n kd F' < unf n kd F := by
  have gen : ∀ l : List Nat, (l.filter fun j => (match kd j with | .list .. => true | _ => false) && !F' j).length ≤ (l.filter fun j => (match kd j with | .list .. => true | _ => false) && !F j).length ∧
      (i ∈ l → (l.filter fun j => (match kd j with | .list .. => true | _ => false) && !F' j).length < (l.filter fun j => (match kd j with | .list .. => true | _ => false) && !F j).length) := by
    intro l
    induction l with
    | nil => exact ⟨Nat.le_refl _, fun h => by cases h⟩
    | cons a t ih =>
      have hle : ((match kd a with | .list .. => true | _ => false) && !F' a) = true → ((match kd a with | .list .. => true | _ => false) && !F a) = true := by
        intro h
        rw [Bool.and_eq_true] at h ⊢
        refine ⟨h.1, ?_⟩
        have h2 := h.2
        cases hfa : F a
        · rfl
        · rw [hu a hfa] at h2; cases h2
      refine ⟨?_, fun hm => ?_⟩
      · rw [List.filter_cons, List.filter_cons]
        by_cases h1 : ((match kd a with | .list .. => true | _ => false) && !F' a) = true
        · rw [if_pos h1, if_pos (hle h1)]
          simpa using ih.1
        · rw [if_neg h1]
          by_cases h3 : ((match kd a with | .list .. => true | _ => false) && !F a) = true
          · rw [if_pos h3]
            have := ih.1
            simp only [List.length_cons]
            omega
          · rw [if_neg h3]
            exact ih.1
      · rw [List.filter_cons, List.filter_cons]
        by_cases hai : a = i
        · subst hai
          have h1 : ¬ ((match kd a with | .list .. => true | _ => false) && !F' a) = true := by rw [hF']; simp
          have h2 : ((match kd a with | .list .. => true | _ => false) && !F a) = true := by rw [hF, hk]; rfl
          rw [if_neg h1, if_pos h2]
          have := ih.1
          simp only [List.length_cons]
          omega
        · have hit : i ∈ t := by
            rcases List.mem_cons.1 hm with h | h
            · exact absurd h.symm hai
            · exact h
          by_cases h1 : ((match kd a with | .list .. => true | _ => false) && !F' a) = true
          · rw [if_pos h1, if_pos (hle h1)]
            simpa using ih.2 hit
          · rw [if_neg h1]
            have := ih.2 hit
            by_cases h3 : ((match kd a with | .list .. => true | _ => false) && !F a) = true
            · rw [if_pos h3]
              simp only [List.length_cons]
              omega
            · rw [if_neg h3]
              exact this
  exact (gen (List.range n)).2 (List.mem_range.2 hi)
theorem unf_le {F F' : Nat → Bool} (hu : ∀ j, F j = true → F' j = true) : unf n kd F' ≤ unf n kd F := by
  have gen : ∀ l : List Nat, (l.filter fun j => (match kd j with | .list .. => true | _ => false) && !F' j).length ≤ (l.filter fun j => (match kd j with | .list .. => true | _ => false) && !F j).length := by
    intro l
    induction l with
    | nil => exact Nat.le_refl _
    | cons a t ih =>
      rw [List.filter_cons, List.filter_cons]
      by_cases h1 : ((match kd a with | .list .. => true | _ => false) && !F' a) = true
      · have h2 : ((match kd a with | .list .. => true | _ => false) && !F a) = true := by
          rw [Bool.and_eq_true] at h1 ⊢
          refine ⟨h1.1, ?_⟩
          have h2 := h1.2
          cases hfa : F a
          · rfl
          · rw [hu a hfa] at h2; cases h2
        rw [if_pos h1, if_pos h2]
        simpa using ih
      · rw [if_neg h1]
        by_cases h3 : ((match kd a with | .list .. => true | _ => false) && !F a) = true
        · rw [if_pos h3]
          simp only [List.length_cons]
          omega
        · rw [if_neg h3]
          exact ih
  exact gen _
end
end Go.Proofs.YtoociokhldakbaaGreat
