/- Marking what is reached, round by round. -/
import Derived.Test.YtoociokhldakbaaGreatN1
namespace Go.Proofs.YtoociokhldakbaaGreat
open Go.ChangeShapes Go.WideShapes Go.ChangeAt Go.RowKit
set_option linter.unusedVariables false
section
variable {n : Nat} {ks : Nat → List Nat}
/-- how many nodes are marked -/
def cnt (n : Nat) (R : Nat → Bool) : Nat := ((List.range n).filter R).length
theorem cnt_le (R : Nat → Bool) : cnt n R ≤ n := by
  have := List.length_filter_le R (List.range n)
  rwa [List.length_range] at this
theorem filter_mono {l : List Nat} {R S : Nat → Bool} (h : ∀ i, R i = true → S i = true) : (l.filter R).length ≤ (l.filter S).length := by
  induction l with
  | nil => exact Nat.le_refl _
  | cons a t ih =>
    rw [List.filter_cons, List.filter_cons]
    by_cases h1 : R a = true
    · rw [if_pos h1, if_pos (h a h1)]
      simpa using ih
    · rw [if_neg h1]
      by_cases h2 : S a = true
      · rw [if_pos h2, List.length_cons]
        omega
      · rw [if_neg h2]
        exact ih
theorem filter_lt {l : List Nat} {R S : Nat → Bool} (h : ∀ i, R i = true → S i = true) {m : Nat} (hm : m ∈ l) (h1 : R m = false) (h2 : S m = true) : (l.filter R).length < (l.filter S).length := by
  induction l with
  | nil => cases hm
  | cons a t ih =>
    rw [List.filter_cons, List.filter_cons]
    by_cases ha : a = m
    · subst ha
      rw [if_neg (by rw [h1]; simp), if_pos h2, List.length_cons]
      have := filter_mono (l := t) h
      omega
    · have hm2 : m ∈ t := by
        rcases List.mem_cons.1 hm with e | e
        · exact absurd e.symm ha
        · exact e
      have ih2 := ih hm2
      by_cases h3 : R a = true
      · rw [if_pos h3, if_pos (h a h3), List.length_cons, List.length_cons]
        omega
      · rw [if_neg h3]
        by_cases h4 : S a = true
        · rw [if_pos h4, List.length_cons]
          omega
        · rw [if_neg h4]
          exact ih2
/-- what is marked is closed under the edges -/
def Clo (n : Nat) (ks : Nat → List Nat) (R : Nat → Bool) : Prop := ∀ i, i < n → R i = true → ∀ d, d ∈ ks i → R d = true
/-- the marks at round r: sound, the root among them, closed or many -/
structure Rnd (n : Nat) (ks : Nat → List Nat) (root r : Nat) (R : Nat → Bool) : Prop where
  sound : ∀ m, R m = true → Rch ks root m
  root : R root = true
  many : Clo n ks R ∨ r + 1 ≤ cnt n R
/-- within a round that began with S: the kids of the nodes below i, and the first k kids of i, are marked where their node was -/
structure Mid (n : Nat) (ks : Nat → List Nat) (root : Nat) (S : Nat → Bool) (i k : Nat) (R : Nat → Bool) : Prop where
  sound : ∀ m, R m = true → Rch ks root m
  up : ∀ m, S m = true → R m = true
  done : ∀ j, j < i → S j = true → ∀ d, d ∈ ks j → R d = true
  part : S i = true → ∀ d, d ∈ (ks i).take k → R d = true
  stay : Clo n ks S → ∀ m, m < n → R m = S m
theorem Rch.snoc {a b d : Nat} (h : Rch ks a b) (hd : d ∈ ks b) : Rch ks a d := Rch.trans h (.step hd .refl)
theorem Mid.start {root r : Nat} {S : Nat → Bool} (h : Rnd n ks root r S) : Mid n ks root S 0 0 S :=
  ⟨h.sound, fun _ h => h, fun j hj => absurd hj (by omega), fun _ d hd => (by rw [List.take_zero] at hd; cases hd), fun _ _ _ => rfl⟩
theorem Mid.step {root : Nat} {S : Nat → Bool} {i k d : Nat} {R : Nat → Bool} (h : Mid n ks root S i k R) (hi : i < n) (hdn : d < n) (hd : (ks i)[k]? = some d) : Mid n ks root S i (k + 1) (fun j => if j = d then (R d || R i) else R j) := by
  have hmem : d ∈ ks i := List.mem_of_getElem? hd
  have hup : ∀ m, R m = true → (fun j => if j = d then (R d || R i) else R j) m = true := fun m hm => by
    show (if m = d then (R d || R i) else R m) = true
    split
    · rename_i e
      subst e
      rw [hm]
      rfl
    · exact hm
  refine ⟨fun m hm => ?_, fun m hm => hup m (h.up m hm), fun j hj hs e he => hup e (h.done j hj hs e he), fun hs e he => ?_, fun hc m hm => ?_⟩
  · replace hm : (if m = d then (R d || R i) else R m) = true := hm
    split at hm
    · rename_i e
      subst e
      rw [Bool.or_eq_true] at hm
      rcases hm with h1 | h1
      · exact h.sound _ h1
      · exact (h.sound _ h1).snoc hmem
    · exact h.sound m hm
  · rw [List.take_add_one, hd] at he
    rcases List.mem_append.1 he with h9 | h9
    · exact hup e (h.part hs e h9)
    · have : e = d := by simpa using h9
      subst this
      show (if e = e then (R e || R i) else R e) = true
      rw [if_pos rfl, h.up i hs]
      simp
  · show (if m = d then (R d || R i) else R m) = S m
    split
    · rename_i e
      subst e
      rw [h.stay hc m hm, h.stay hc i hi]
      cases h1 : S i
      · simp
      · rw [hc i hi h1 m hmem]
        rfl
    · exact h.stay hc m hm
theorem Mid.next {root : Nat} {S : Nat → Bool} {i : Nat} {R : Nat → Bool} (h : Mid n ks root S i (ks i).length R) : Mid n ks root S (i + 1) 0 R :=
  ⟨h.sound, h.up, fun j hj hs d hd => by
    by_cases e : j = i
    · subst e
      exact h.part hs d (by rw [List.take_length]; exact hd)
    · exact h.done j (by omega) hs d hd, fun _ d hd => (by rw [List.take_zero] at hd; cases hd), h.stay⟩
theorem Mid.stop {root r : Nat} {S R : Nat → Bool} (h0 : Rnd n ks root r S) (h : Mid n ks root S n 0 R) (hkid : ∀ i, i < n → ∀ d, d ∈ ks i → d < n) : Rnd n ks root (r + 1) R := by
  refine ⟨h.sound, h.up _ h0.root, ?_⟩
  by_cases hs : ∃ m, m < n ∧ R m = true ∧ S m = false
  · obtain ⟨m, hm, h1, h2⟩ := hs
    rcases h0.many with hc | hc
    · rw [h.stay hc m hm] at h1
      rw [h1] at h2
      cases h2
    · right
      have := filter_lt (l := List.range n) h.up (List.mem_range.2 hm) h2 h1
      unfold cnt at hc ⊢
      omega
  · left
    have heq : ∀ m, m < n → R m = true → S m = true := fun m hm h1 => by
      cases h2 : S m
      · exact absurd ⟨m, hm, h1, h2⟩ hs
      · rfl
    intro i hi h1 d hd
    exact h.done i hi (heq i hi h1) d hd
theorem Rnd.reach {root : Nat} {R : Nat → Bool} (h : Rnd n ks root n R) (hroot : root < n) (hkid : ∀ i, i < n → ∀ d, d ∈ ks i → d < n) (m : Nat) : R m = true ↔ Rch ks root m := by
  have hc : Clo n ks R := by
    rcases h.many with hc | hc
    · exact hc
    · have := cnt_le (n := n) R
      omega
  refine ⟨h.sound m, fun hr => ?_⟩
  have key : ∀ a b, Rch ks a b → a < n → R a = true → R b = true := by
    intro a b hab
    induction hab with
    | refl => exact fun _ h => h
    | step h1 _ ih => exact fun ha hR => ih (hkid _ ha _ h1) (hc _ ha hR _ h1)
  exact key root m hr hroot h.root
theorem Rnd.start {root : Nat} (hroot : root < n) : Rnd n ks root 0 (fun j => decide (j = root)) := by
  refine ⟨fun m h => ?_, by simp, .inr ?_⟩
  · have : m = root := by simpa using h
    subst this
    exact .refl
  · have := filter_lt (l := List.range n) (R := fun _ => false) (S := fun j => decide (j = root)) (fun _ h => by cases h) (List.mem_range.2 hroot) rfl (by simp)
    unfold cnt
    omega
end
end Go.Proofs.YtoociokhldakbaaGreat
