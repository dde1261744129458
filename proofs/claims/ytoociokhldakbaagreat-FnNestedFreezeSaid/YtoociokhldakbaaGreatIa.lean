/- Plain numbers, slices that read as lists, the reference's integers. -/
import Derived.Test.YtoociokhldakbaaGreatRows
import Derived.WalkKit
import Derived.ProofKit
import Derived.Outline
import Derived.Handy
import Derived.WalkLawsBesides
import Derived.WalkSpells
import Derived.Deep.QuietTactic
import Derived.Deep.RegionWith
import Derived.BigQuiet
import Derived.Lib.Hide
import Derived.Laws.CopyOwn
import Derived.Lib.OthersKept
import Derived.Lib.Strings
import Derived.Deep.Upon
import Derived.Laws.BitsAllLaws
import Derived.Deep.OwnRows
namespace Go.Proofs.YtoociokhldakbaaGreat
open Go.ChangeShapes Go.WideShapes Go.ChangeAt Go.RowKit
set_option linter.unusedVariables false
namespace Num
/-- the number of digits in base b, the lowest first -/
def le (b : Nat) : List Nat → Nat
  | [] => 0
  | d :: t => d + b * le b t
theorem le_append (b : Nat) : ∀ (l m : List Nat), le b (l ++ m) = le b l + b ^ l.length * le b m
  | [], m => by simp [le]
  | d :: t, m => by
    simp only [List.cons_append, le, le_append b t m, List.length_cons, Nat.pow_succ]
    rw [Nat.mul_add, ← Nat.add_assoc, Nat.mul_comm (b ^ t.length) b, Nat.mul_assoc]
theorem le_lt (b : Nat) (hb : 0 < b) : ∀ (l : List Nat), (∀ d ∈ l, d < b) → le b l < b ^ l.length
  | [], _ => by simp [le]
  | d :: t, h => by
    have h1 := le_lt b hb t (fun x hx => h x (List.mem_cons_of_mem _ hx))
    have h2 := h d (List.mem_cons_self ..)
    simp only [le, List.length_cons, Nat.pow_succ]
    have h3 : b * le b t + b ≤ b * b ^ t.length := by
      have : b * (le b t + 1) ≤ b * b ^ t.length := Nat.mul_le_mul_left b h1
      rw [Nat.mul_add, Nat.mul_one] at this
      exact this
    rw [Nat.mul_comm (b ^ t.length) b]
    omega
theorem le_replicate (b k : Nat) : le b (List.replicate k 0) = 0 := by
  induction k with
  | zero => rfl
  | succ k ih => simp [List.replicate_succ, le, ih]
/-- all digits fit, and the highest is not 0 -/
structure Can (b : Nat) (l : List Nat) : Prop where
  dig : ∀ d ∈ l, d < b
  top : ∀ h : l ≠ [], l.getLast h ≠ 0
theorem Can.nil (b : Nat) : Can b [] := ⟨fun _ h => (by cases h), fun h => absurd rfl h⟩
theorem Can.tail {b d : Nat} {t : List Nat} (h : Can b (d :: t)) : Can b t :=
  ⟨fun x hx => h.dig x (List.mem_cons_of_mem _ hx), fun ht => by
    have := h.top (by simp)
    rwa [List.getLast_cons ht] at this⟩
theorem Can.pos {b : Nat} (hb : 0 < b) : ∀ {l : List Nat}, Can b l → l ≠ [] → 0 < le b l
  | [], _, h => absurd rfl h
  | [d], h, _ => by
    have := h.top (by simp)
    simp at this
    simp [le]; omega
  | d :: e :: t, h, _ => by
    have := Can.pos hb (h.tail) (by simp)
    have h2 : 0 < b * le b (e :: t) := Nat.mul_pos hb this
    show 0 < d + b * le b (e :: t)
    omega
theorem Can.unique {b : Nat} (hb : 0 < b) : ∀ {l m : List Nat}, Can b l → Can b m → le b l = le b m → l = m
  | [], [], _, _, _ => rfl
  | [], d :: t, _, h, e => by
    have := h.pos hb (by simp)
    rw [← e] at this
    simp [le] at this
  | d :: t, [], h, _, e => by
    have := h.pos hb (by simp)
    rw [e] at this
    simp [le] at this
  | d :: t, d' :: t', h, h', e => by
    have h1 := h.dig d (List.mem_cons_self ..)
    have h2 := h'.dig d' (List.mem_cons_self ..)
    simp only [le] at e
    have e1 : d = d' := by
      have := congrArg (· % b) e
      simp only [Nat.add_mul_mod_self_left] at this
      rwa [Nat.mod_eq_of_lt h1, Nat.mod_eq_of_lt h2] at this
    subst e1
    have e2 : le b t = le b t' := Nat.eq_of_mul_eq_mul_left hb (by omega)
    rw [Can.unique hb h.tail h'.tail e2]
theorem Can.eq_nil {b : Nat} (hb : 0 < b) {l : List Nat} (h : Can b l) : le b l = 0 ↔ l = [] := by
  constructor
  · intro e
    rcases Classical.em (l = []) with h1 | h1
    · exact h1
    · have := h.pos hb h1; omega
  · rintro rfl; rfl
/-- what is left without the highest zeros -/
def trim : List Nat → List Nat
  | [] => []
  | d :: t => match trim t with
    | [] => if d = 0 then [] else [d]
    | e :: u => d :: e :: u
theorem le_trim (b : Nat) : ∀ l, le b (trim l) = le b l
  | [] => rfl
  | d :: t => by
    have ih := le_trim b t
    simp only [trim]
    split
    · rename_i h
      rw [h] at ih
      simp only [le] at ih ⊢
      split
      · rename_i h0; simp [le, ← ih, h0]
      · simp [le, ← ih]
    · rename_i e u h
      rw [h] at ih
      simp only [le] at ih ⊢
      rw [ih]
theorem can_trim (b : Nat) : ∀ l, (∀ d ∈ l, d < b) → Can b (trim l)
  | [], _ => Can.nil b
  | d :: t, h => by
    have ih := can_trim b t (fun x hx => h x (List.mem_cons_of_mem _ hx))
    simp only [trim]
    split
    · split
      · exact Can.nil b
      · rename_i h0
        exact ⟨fun x hx => by rw [List.mem_singleton] at hx; subst hx; exact h _ (List.mem_cons_self ..), fun _ => by simpa using h0⟩
    · rename_i e u hu
      rw [hu] at ih
      refine ⟨fun x hx => ?_, fun hh => ?_⟩
      · rcases List.mem_cons.1 hx with rfl | hx
        · exact h _ (List.mem_cons_self ..)
        · exact ih.dig x hx
      · rw [List.getLast_cons (by simp)]
        exact ih.top (by simp)
/-- zeros at the top are struck -/
theorem trim_of (l : List Nat) (k : Nat) (hk : k ≤ l.length) (hz : ∀ j (h : j < l.length), k ≤ j → l[j]'h = 0) (ht : k = 0 ∨ ∃ h : k - 1 < l.length, l[k - 1]'h ≠ 0) : trim l = l.take k := by
  induction l generalizing k with
  | nil => simp [trim]
  | cons d t ih =>
    cases k with
    | zero =>
      have h1 := ih 0 (Nat.zero_le _) (fun j h _ => by have := hz (j + 1) (by simpa using h) (by omega); simpa using this) (.inl rfl)
      have h0 := hz 0 (by simp) (Nat.le_refl _)
      simp only [List.getElem_cons_zero] at h0
      simp [trim, h1, h0]
    | succ k =>
      simp only [List.length_cons, Nat.add_le_add_iff_right] at hk
      have hz' : ∀ j (h : j < t.length), k ≤ j → t[j]'h = 0 := fun j h hj => by have := hz (j + 1) (by simpa using h) (by omega); simpa using this
      rcases Nat.eq_zero_or_pos k with hk0 | hk0
      · subst hk0
        have h1 := ih 0 (Nat.zero_le _) hz' (.inl rfl)
        have hd : d ≠ 0 := by
          rcases ht with h | ⟨h, h2⟩
          · omega
          · simpa using h2
        simp [trim, h1, hd]
      · have h1 := ih k hk hz' (.inr (by
          obtain ⟨q, rfl⟩ : ∃ q, k = q + 1 := ⟨k - 1, by omega⟩
          rcases ht with h | ⟨h, h2⟩
          · omega
          · exact ⟨by omega, h2⟩))
        have hne : t.take k ≠ [] := by
          intro e
          have := congrArg List.length e
          rw [List.length_take, List.length_nil] at this
          omega
        simp only [trim, h1, List.take_succ_cons]
        split
        · rename_i e; exact absurd e hne
        · rename_i e u e2; rw [e2]
end Num
namespace Num
/-- the j-th word of digits in base 256, the lowest first -/
def word (m : List Nat) (j : Nat) : Nat := le 256 ((m.drop (8 * j)).take 8)
def B64 : Nat := 18446744073709551616
theorem B64_eq : B64 = 256 ^ 8 := by decide
theorem B64_pos : 0 < B64 := by decide
theorem le_words (m : List Nat) : ∀ k, 8 * k ≤ m.length → le 256 m = le B64 ((List.range k).map (word m)) + B64 ^ k * le 256 (m.drop (8 * k))
  | 0, _ => by simp [le]
  | k + 1, hk => by
    have ih := le_words m k (by omega)
    have e : m.drop (8 * k) = (m.drop (8 * k)).take 8 ++ m.drop (8 * (k + 1)) := by
      have := (List.take_append_drop 8 (m.drop (8 * k))).symm
      rw [List.drop_drop] at this
      exact this
    rw [ih, List.range_succ, List.map_append, le_append, List.length_map, List.length_range]
    simp only [List.map_cons, List.map_nil, le, Nat.mul_zero, Nat.add_zero]
    have e2 : le 256 (m.drop (8 * k)) = word m k + B64 * le 256 (m.drop (8 * (k + 1))) := by
      have h8 : ((m.drop (8 * k)).take 8).length = 8 := by simp; omega
      have := congrArg (le 256) e
      rw [le_append, h8, ← B64_eq] at this
      exact this
    rw [e2, Nat.mul_add, Nat.pow_succ, Nat.mul_assoc, Nat.add_assoc]
theorem word_end (m : List Nat) (k : Nat) (hk : m.length < 8 * k + 8) : word m k = le 256 (m.drop (8 * k)) := by
  unfold word
  rw [List.take_of_length_le (by simp; omega)]
/-- all of them -/
theorem le_all (m : List Nat) (W : Nat) (hW : W = (m.length + 7) / 8) : le 256 m = le B64 ((List.range W).map (word m)) := by
  by_cases h : m.length % 8 = 0
  · have h1 := le_words m (m.length / 8) (by omega)
    have e : W = m.length / 8 := by omega
    rw [List.drop_of_length_le (by omega)] at h1
    rw [e, h1]
    simp [le]
  · have h1 := le_words m (m.length / 8) (by omega)
    have e : W = m.length / 8 + 1 := by omega
    rw [e, List.range_succ, List.map_append, le_append, List.length_map, List.length_range, h1, ← word_end m _ (by omega)]
    simp [le]
theorem getD_drop (m : List Nat) (k i : Nat) : (m.drop k).getD i 0 = m.getD (k + i) 0 := by simp [List.getElem?_drop]
theorem word_eq (m : List Nat) (k : Nat) (hk : 8 * k + 8 ≤ m.length) :
    word m k = m.getD (8 * k) 0 + 256 * m.getD (8 * k + 1) 0 + 65536 * m.getD (8 * k + 2) 0 + 16777216 * m.getD (8 * k + 3) 0
      + 4294967296 * (m.getD (8 * k + 4) 0 + 256 * m.getD (8 * k + 5) 0 + 65536 * m.getD (8 * k + 6) 0 + 16777216 * m.getD (8 * k + 7) 0) := by
  have h : ∀ i, m.getD (8 * k + i) 0 = (m.drop (8 * k)).getD i 0 := fun i => (getD_drop m _ i).symm
  have h0 := h 0
  rw [Nat.add_zero] at h0
  rw [h0, h 1, h 2, h 3, h 4, h 5, h 6, h 7]
  unfold word
  have hl : 8 ≤ (m.drop (8 * k)).length := by simp; omega
  generalize m.drop (8 * k) = q at *
  match q, hl with
  | a :: b :: c :: d :: e :: f :: g :: i :: r, _ =>
    simp [le]
    omega
theorem word_lt (m : List Nat) (hm : ∀ d ∈ m, d < 256) (k : Nat) : word m k < B64 := by
  have h := le_lt 256 (by omega) ((m.drop (8 * k)).take 8) (fun d hd => hm d (List.mem_of_mem_drop (List.mem_of_mem_take hd)))
  have h2 : ((m.drop (8 * k)).take 8).length ≤ 8 := by simp; omega
  have h3 : 256 ^ ((m.drop (8 * k)).take 8).length ≤ 256 ^ 8 := Nat.pow_le_pow_right (by omega) h2
  rw [B64_eq]
  unfold word
  omega
theorem rev_getD (l : List Nat) (j : Nat) (h : j < l.length) : l.reverse.getD j 0 = l.getD (l.length - 1 - j) 0 := by
  simp only [List.getD_eq_getElem?_getD, List.getElem?_reverse h]
end Num
/-! ### bits of numbers -/
theorem or_shl (a b k : Nat) (h : a < 2 ^ k) : a ||| (b * 2 ^ k) = a + b * 2 ^ k := by
  rw [Nat.or_comm, Nat.mul_comm b, ← Nat.two_pow_add_eq_or_of_lt h, Nat.add_comm]
theorem be32_eq (d0 d1 d2 d3 : Nat) (h0 : d0 < 256) (h1 : d1 < 256) (h2 : d2 < 256) (h3 : d3 < 256) :
    bits .or .u32 (bits .or .u32 (bits .or .u32 (d3 : Int) ((d2 : Int) * 256)) ((d1 : Int) * 65536)) ((d0 : Int) * 16777216) = ((d3 + 256 * d2 + 65536 * d1 + 16777216 * d0 : Nat) : Int) := by
  have c1 : (d2 : Int) * 256 = ((d2 * 256 : Nat) : Int) := by omega
  have c2 : (d1 : Int) * 65536 = ((d1 * 65536 : Nat) : Int) := by omega
  have c3 : (d0 : Int) * 16777216 = ((d0 * 16777216 : Nat) : Int) := by omega
  have e1 : d3 ||| d2 * 256 = d3 + d2 * 256 := or_shl d3 d2 8 (by omega)
  have e2 : (d3 + d2 * 256) ||| d1 * 65536 = d3 + d2 * 256 + d1 * 65536 := or_shl _ d1 16 (by omega)
  have e3 : (d3 + d2 * 256 + d1 * 65536) ||| d0 * 16777216 = d3 + d2 * 256 + d1 * 65536 + d0 * 16777216 := or_shl _ d0 24 (by omega)
  rw [c1, c2, c3, u32_or_nat _ _ (by omega) (by omega), e1, u32_or_nat _ _ (by omega) (by omega), e2, u32_or_nat _ _ (by omega) (by omega), e3]
  omega
theorem be64_eq (a b : Nat) (ha : a < 4294967296) (hb : b < 4294967296) : bits .or .u64 ((a : Int) * 4294967296) (b : Int) = ((b + 4294967296 * a : Nat) : Int) := by
  have c1 : (a : Int) * 4294967296 = ((a * 4294967296 : Nat) : Int) := by omega
  have e1 : b ||| a * 4294967296 = b + a * 4294967296 := or_shl b a 32 (by omega)
  rw [c1, u64_or_nat _ _ (by omega) (by omega), Nat.or_comm, e1]
  omega
/-! ### slices that read as lists of numbers -/
/-- bytes as cells -/
def by8 (l : List Nat) : List Value := l.map fun (d : Nat) => Value.int .u8 (d : Int)
/-- words as cells -/
def w64 (l : List Nat) : List Value := l.map fun (d : Nat) => Value.int .u64 (d : Int)
theorem by8_len (l : List Nat) : (by8 l).length = l.length := by simp [by8]
theorem w64_len (l : List Nat) : (w64 l).length = l.length := by simp [w64]
theorem by8_get (l : List Nat) (k : Nat) (h : k < l.length) : (by8 l)[k]? = some (.int .u8 ((l[k]'h : Nat) : Int)) := by simp [by8, h]
theorem w64_get (l : List Nat) (k : Nat) (h : k < l.length) : (w64 l)[k]? = some (.int .u64 ((l[k]'h : Nat) : Int)) := by simp [w64, h]
theorem by8_drop (l : List Nat) (k : Nat) : by8 (l.drop k) = (by8 l).drop k := by simp [by8, List.map_drop]
theorem w64_drop (l : List Nat) (k : Nat) : w64 (l.drop k) = (w64 l).drop k := by simp [w64, List.map_drop]
theorem by8_ne {l : List Nat} (h : 0 < l.length) : by8 l ≠ [] := fun e => by
  have := congrArg List.length e
  rw [by8_len, List.length_nil] at this
  omega
theorem w64_ne {l : List Nat} (h : 0 < l.length) : w64 l ≠ [] := fun e => by
  have := congrArg List.length e
  rw [w64_len, List.length_nil] at this
  omega
theorem by8_one (l : List Nat) : ∀ u ∈ by8 l, u.oneCell' = true := by
  intro u hu; simp only [by8, List.mem_map] at hu; obtain ⟨d, _, rfl⟩ := hu; rfl
theorem w64_one (l : List Nat) : ∀ u ∈ w64 l, u.oneCell' = true := by
  intro u hu; simp only [w64, List.mem_map] at hu; obtain ⟨d, _, rfl⟩ := hu; rfl
/-- the slice with address A, as many elements as xs has and capacity c reads as xs -/
structure Sl (w : World) (A : Option Addr) (c : Nat) (xs : List Value) : Prop where
  cap : xs.length ≤ c
  max : c ≤ maxLen
  at_ : xs ≠ [] → ∃ b off, A = some ⟨b, off, none⟩ ∧ ∀ (j : Nat) (u : Value), xs[j]? = some u → w.cell? ⟨b, off + j, none⟩ = some u
section
variable {w w' : World} {A : Option Addr} {c : Nat} {xs : List Value}
theorem Sl.nil (w : World) : Sl w none 0 [] := ⟨Nat.le_refl _, Nat.zero_le _, fun h => absurd rfl h⟩
theorem Sl.empty (w : World) (A : Option Addr) (c : Nat) (hc : c ≤ maxLen) : Sl w A c [] := ⟨Nat.zero_le _, hc, fun h => absurd rfl h⟩
theorem Sl.below (h : Sl w A c xs) (hb : Below w.heap.size w w') : Sl w' A c xs := by
  refine ⟨h.cap, h.max, fun hx => ?_⟩
  obtain ⟨b, off, e, hc⟩ := h.at_ hx
  refine ⟨b, off, e, fun j u hu => ?_⟩
  have h1 := hc j u hu
  exact (hb.cell (p := ⟨b, off + j, none⟩) (block_lt_of_cell h1)).trans h1
/-- only the block g has turned, and that is none of its -/
theorem Sl.far (h : Sl w A c xs) {g : Nat} (hg : ∀ b off, A = some ⟨b, off, none⟩ → b ≠ g) (hk : ∀ k, k < w.heap.size → k ≠ g → w'.heap[k]? = w.heap[k]?) : Sl w' A c xs := by
  refine ⟨h.cap, h.max, fun hx => ?_⟩
  obtain ⟨b, off, e, hc⟩ := h.at_ hx
  refine ⟨b, off, e, fun j u hu => ?_⟩
  have h1 := hc j u hu
  exact (World.cell?_of_block (w := w) (hk b (block_lt_of_cell h1) (hg b off e))).trans h1
theorem Sl.drop (h : Sl w A c xs) (k : Nat) (hk : k ≤ xs.length) : Sl w (if c = k then A else A.map (·.add k)) (c - k) (xs.drop k) := by
  have h1 := h.cap
  have h2 := h.max
  refine ⟨by simp; omega, by omega, fun hx => ?_⟩
  have hlt : k < xs.length := by
    rcases Nat.lt_or_ge k xs.length with h3 | h3
    · exact h3
    · exact absurd (List.drop_eq_nil_of_le h3) hx
  have hne : xs ≠ [] := fun e => by subst e; simp at hlt
  obtain ⟨b, off, e, hc⟩ := h.at_ hne
  rw [if_neg (by omega), e]
  refine ⟨b, off + k, by by_cases h0 : k = 0 <;> simp [Addr.add, h0], fun j u hu => ?_⟩
  rw [List.getElem?_drop] at hu
  rw [Nat.add_assoc]
  exact hc _ _ hu
theorem Sl.take (h : Sl w A c xs) (k : Nat) : Sl w A c (xs.take k) := by
  refine ⟨by have := h.cap; simp; omega, h.max, fun hx => ?_⟩
  have hne : xs ≠ [] := fun e => by subst e; simp at hx
  obtain ⟨b, off, e, hc⟩ := h.at_ hne
  refine ⟨b, off, e, fun j u hu => hc j u ?_⟩
  rw [List.getElem?_take] at hu
  split at hu
  · exact hu
  · cases hu
theorem Sl.of_own {B e n cc : Nat} (h : w.ownsRow B e 1 (.slice A n cc) n xs) : Sl w A cc xs ∧ n = xs.length := by
  have hl : n = xs.length := by have := h.1; omega
  refine ⟨?_, hl⟩
  rcases h.2 with ⟨h1, h2⟩ | ⟨g, cap, cur, h1, h2, h3, h4, h5, h6, h7⟩
  · injection h1 with e1 e2 e3
    subst e1 e3
    have : xs = [] := List.eq_nil_of_length_eq_zero (by omega)
    subst this
    exact Sl.nil w
  · injection h1 with e1 e2 e3
    subst e1 e3
    refine ⟨by omega, h5, fun _ => ⟨g, 0, rfl, fun j u hu => ?_⟩⟩
    have := h.cells (g := g) rfl j u hu
    have e : (⟨g, 0, none⟩ : Addr).add j = ⟨g, 0 + j, none⟩ := by by_cases h0 : j = 0 <;> simp [Addr.add, h0]
    rwa [e] at this
end
theorem own_far {w : World} {B e n cc : Nat} {A : Option Addr} {xs : List Value} (h : w.ownsRow B e 1 (.slice A n cc) n xs) {g : Nat} (hg : g < B) : ∀ b off, A = some ⟨b, off, none⟩ → b ≠ g := by
  rintro b off rfl
  have := (h.lt b rfl).1
  omega
/-- the block g is the cells cs, none of them frozen -/
def Blk (w : World) (g : Nat) (t : TypeId) (cs : Array Value) : Prop := w.heap[g]? = some (.cells cs t (0, 0))
theorem Blk.lt {w : World} {g : Nat} {t : TypeId} {cs : Array Value} (h : Blk w g t cs) : g < w.heap.size := (Array.getElem?_eq_some_iff.1 h).1
theorem Blk.below {w w' : World} {g : Nat} {t : TypeId} {cs : Array Value} (h : Blk w g t cs) (hb : Below w.heap.size w w') : Blk w' g t cs := (hb.block g h.lt).trans h
theorem Blk.new (w : World) (t : TypeId) (cs : Array Value) : Blk (w.alloc (.cells cs t)) w.heap.size t cs := heap_alloc_new w _
theorem Blk.cell {w : World} {g : Nat} {t : TypeId} {cs : Array Value} (h : Blk w g t cs) (i : Nat) : w.cell? ⟨g, i, none⟩ = cs[i]? := cell_of_row w g i cs t (0, 0) h
theorem Blk.frozen {w : World} {g : Nat} {t : TypeId} {cs : Array Value} (h : Blk w g t cs) (i : Nat) : w.frozen? ⟨g, i, none⟩ = false := frozen_of_row w g i cs t h
/-- a struct that is handed back out of its own block -/
theorem bodyPost_blk {P : Program} {fn : Func} {R : Ending → World → Prop} {a : Act} {w : World} {p : Tmp} {ty : TypeId} {g : Nat} {t : TypeId} {cs : Array Value} {fr : Nat × Nat} {d : TypeDesc} (h : fn.results = #[.cell p ty])
    (hp : a.tmps.getD p undef = .pointer (some ⟨g, 0, none⟩)) (hg : w.heap[g]? = some (.cells cs t fr)) (hu : P.underlying ty = some d) (hd : (match d with | .struct _ | .array _ _ => true | _ => false) = true) (hi : (P.info? ty).map (·.size) = some cs.size)
    (hdf : a.defers = []) (hR : R (.returned (.agg cs)) w) : bodyPost P fn R .ret a w :=
  bodyPost_ret (results_cell_row h _ w g t cs fr d hp hg hu hd hi) hdf hR
/-- what a contract keeps of the world: what lay there is as it was -/
abbrev Kept (w w' : World) : Prop := Below w.heap.size w w'
theorem Kept.trans {a b c : World} (h : Kept a b) (k : Kept b c) : Kept a c := Below.trans h (k.mono h.size)
theorem info8 : (Tryz.prog.info? 5).map (fun i => (i.zero, i.size, i.bytes)) = some (some (.int .u8 0), 1, 1) := by kernel_rfl
section
variable {P : Program}
/-- append onto a row of the call's own, whatever the source's address -/
theorem wp_append_sl {w : World} {o : Oper} {a : Act} {K : Act → World → Prop} {Q : Exit → Act → World → Prop} (s x : Operand) (t : TypeId)
    (ho : o.op = .call { callee := .builtin .append, args := #[s, x], argTypes := #[t, t] })
    (base : Nat) (e : TypeId) (i : TypeInfo) (z : Value) (bytes : Nat) (ht : P.underlying t = some (.slice e)) (hi : P.info? e = some i) (hz : i.zero = some z)
    (hsize : i.size = 1) (hby : i.bytes = bytes) (hzs : z.cells.size = 1)
    (v : Value) (n : Nat) (xs : List Value) (hs : a.eval s = v) (hown : w.ownsRow base e 1 v n xs)
    (A : Option Addr) (m c : Nat) (news : List Value) (hx : a.eval x = .slice A m c) (hm : news.length = m) (hsl : Sl w A c news) (h1 : ∀ u ∈ news, u.oneCell' = true)
    (h63 : n + m ≤ maxLen) (hbytes : (n + m) * bytes ≤ 140737488355328) (hbase : base ≤ w.heap.size)
    (h : ∀ v' w', w'.ownsRow base e 1 v' (n + m) (xs ++ news) → w.grownBy w' v.ownBlock → K (a.put o.dst v') w') : o.wp P a w K Q := by
  rcases A with _ | ad
  · have hnil : news = [] := by
      rcases Classical.em (news = []) with h0 | h0
      · exact h0
      · obtain ⟨b, off, e1, _⟩ := hsl.at_ h0; cases e1
    subst hnil
    simp only [List.length_nil] at hm
    subst hm
    obtain ⟨B, L, C, hv, hLC⟩ : ∃ B L C, v = .slice B L C ∧ L ≤ C := by
      rcases hown.2 with ⟨e1, _⟩ | ⟨g, cap, cur, e1, _, _, e2, _⟩
      · exact ⟨_, _, _, e1, Nat.le_refl _⟩
      · exact ⟨_, _, _, e1, e2⟩
    have hr := run_append_nothing (P := P) w t t o.type e i ht hi B L C hLC (.slice none 0 c) (Src.ofNil w ht c)
    rw [← hv] at hr
    unfold Oper.wp execOp
    simp only [ho, resolve, invoke, builtin, Sem.run_bind, Sem.run_pure, Result.andThen_ok, List.map_toArray, List.map_cons, List.map_nil, hs, hx, hr]
    exact h v w (by simpa using hown) (World.grownBy.refl w _)
  · refine wp_append_own w s x t ho base e i z 1 bytes ht hi hz hsize hby hzs (by omega) v n xs hs hown ad m c news hx (by omega) ?_ h1 h63 hbytes hbase fun v' w' h2 h3 _ => h v' w' h2 h3
    intro j u hu
    have hne : news ≠ [] := fun e1 => by subst e1; simp at hu
    obtain ⟨b, off, e1, hc⟩ := hsl.at_ hne
    injection e1 with e1
    subst e1
    have e2 : (⟨b, off, none⟩ : Addr).add j = ⟨b, off + j, none⟩ := by by_cases h0 : j = 0 <;> simp [Addr.add, h0]
    rw [e2]
    exact hc j u hu
theorem wpList_append_sl {w : World} {ops : Array Oper} {rest : List Oper} {o : Oper} {a : Act} {Q : Exit → Act → World → Prop} (hgd : o.guard = none) (s x : Operand) (t : TypeId)
    (ho : o.op = .call { callee := .builtin .append, args := #[s, x], argTypes := #[t, t] })
    (base : Nat) (e : TypeId) (i : TypeInfo) (z : Value) (bytes : Nat) (ht : P.underlying t = some (.slice e)) (hi : P.info? e = some i) (hz : i.zero = some z)
    (hsize : i.size = 1) (hby : i.bytes = bytes) (hzs : z.cells.size = 1)
    (v : Value) (n : Nat) (xs : List Value) (hs : a.eval s = v) (hown : w.ownsRow base e 1 v n xs)
    (A : Option Addr) (m c : Nat) (news : List Value) (hx : a.eval x = .slice A m c) (hm : news.length = m) (hsl : Sl w A c news) (h1 : ∀ u ∈ news, u.oneCell' = true)
    (h63 : n + m ≤ maxLen) (hbytes : (n + m) * bytes ≤ 140737488355328) (hbase : base ≤ w.heap.size)
    (h : ∀ v' w', w'.ownsRow base e 1 v' (n + m) (xs ++ news) → w.grownBy w' v.ownBlock → wpList P ops Q rest (a.put o.dst v') w') : wpList P ops Q (o :: rest) a w :=
  wpList_plain hgd fun _ hK => wp_append_sl s x t ho base e i z bytes ht hi hz hsize hby hzs v n xs hs hown A m c news hx hm hsl h1 h63 hbytes hbase fun v' w' h2 h3 => hK _ _ (h v' w' h2 h3)
theorem step_append_sl {w : World} {ops : Array Oper} {o : Oper} {a : Act} {K : Act → World → Prop} {Q : Exit → Act → World → Prop} {E : Prop} (hgd : o.guard = none) (s x : Operand) (t : TypeId)
    (ho : o.op = .call { callee := .builtin .append, args := #[s, x], argTypes := #[t, t] })
    (base : Nat) (e : TypeId) (i : TypeInfo) (z : Value) (bytes : Nat) (ht : P.underlying t = some (.slice e)) (hi : P.info? e = some i) (hz : i.zero = some z)
    (hsize : i.size = 1) (hby : i.bytes = bytes) (hzs : z.cells.size = 1)
    (v : Value) (n : Nat) (xs : List Value) (hs : a.eval s = v) (hown : w.ownsRow base e 1 v n xs)
    (A : Option Addr) (m c : Nat) (news : List Value) (hx : a.eval x = .slice A m c) (hm : news.length = m) (hsl : Sl w A c news) (h1 : ∀ u ∈ news, u.oneCell' = true)
    (h63 : n + m ≤ maxLen) (hbytes : (n + m) * bytes ≤ 140737488355328) (hbase : base ≤ w.heap.size)
    (h : ∀ v' w', w'.ownsRow base e 1 v' (n + m) (xs ++ news) → w.grownBy w' v.ownBlock → K (a.put o.dst v') w') :
    if Region.wanted o (yielded ops a.tmps) = true then Oper.wp P o a w K Q else E := by
  have hw : Region.wanted o (yielded ops a.tmps) = true := by simp [Region.wanted, hgd]
  rw [if_pos hw]
  exact wp_append_sl s x t ho base e i z bytes ht hi hz hsize hby hzs v n xs hs hown A m c news hx hm hsl h1 h63 hbytes hbase h
end
/-- what 'cut' hands back: a row of its own without leading zeros -/
def Cut (w : World) (l : List Nat) (e : Ending) (w' : World) : Prop :=
  ∃ A c, e = .returned (.slice A (l.dropWhile (· == 0)).length c) ∧ w'.ownsRow w.heap.size 5 1 (.slice A (l.dropWhile (· == 0)).length c) (l.dropWhile (· == 0)).length (by8 (l.dropWhile (· == 0))) ∧ Kept w w'
theorem drop_zeros (l : List Nat) (k : Nat) (hk : k ≤ l.length) (hz : ∀ j (h : j < l.length), j < k → l[j]'h = 0) (he : ∀ h : k < l.length, l[k]'h ≠ 0) : l.dropWhile (· == 0) = l.drop k := by
  induction l generalizing k with
  | nil => simp
  | cons d t ih =>
    cases k with
    | zero => simp at he; simp [he]
    | succ k =>
      have h0 := hz 0 (by simp) (by omega)
      simp only [List.getElem_cons_zero] at h0
      simp only [h0, List.dropWhile_cons, beq_self_eq_true, if_true, List.drop_succ_cons]
      exact ih k (by simpa using hk) (fun j h hj => by have := hz (j + 1) (by simpa using h) (by omega); simpa using this) (fun h => by have := he (by simpa using h); simpa using this)
theorem own_kept {W w1 : World} {B e n : Nat} {v : Value} {xs : List Value} {w : World} (hb : Kept w W) (hown : W.ownsRow B e 1 v n xs) (hB : w.heap.size ≤ B) (hg : W.grownBy w1 v.ownBlock) : Kept w w1 :=
  Below.grown hb hg hb.size (fun k hk => Nat.le_trans hB (hown.lt k hk).1)
/-- the address of what is left behind the first k elements -/
def cutA (A : Option Addr) (k c : Nat) : Option Addr := if c = k then A else A.map (·.add k)
theorem run_from8 (A : Option Addr) (n c k : Nat) (hk : k ≤ n) (wx : World) :
    (Instr.slice 29 (.slice A n c) (some (.int .i64 (k : Int))) none none).run Tryz.prog wx = .ok (.slice (cutA A k c) (n - k) (c - k)) wx := by
  have h1 : (k : Int) ≤ (n : Int) := by omega
  simp [go_sem, cutA, Tryz.underlying29, h1]
theorem Sl.from_ {w : World} {A : Option Addr} {c : Nat} {xs : List Value} (h : Sl w A c xs) (k : Nat) (hk : k ≤ xs.length) : Sl w (cutA A k c) (c - k) (xs.drop k) := h.drop k hk
set_option maxRecDepth 100000 in
theorem cut_any (A : Option Addr) (c : Nat) (l : List Nat) (hl : l.length ≤ 140737488351232) (w : World) (hs : Sl w A c (by8 l)) :
    Calls Tryz.prog 32 #[.slice A l.length c] w (Cut w l) := by
  obtain ⟨i0, hi0, hz0, hz1, hz2⟩ := info_parts info8
  have hcap := hs.cap
  rw [by8_len] at hcap
  go_enter Tryz.func32, Tryz.ntmps32
  go_wp2
  go_loop [3] (fun iv => ∃ k : Nat, iv = .int .i64 k ∧ k ≤ l.length ∧ Hid (∀ j (h : j < l.length), j < k → l[j]'h = 0)) (fun iv => l.length - (intOf iv).toNat)
  case atStart => exact ⟨0, rfl, Nat.zero_le _, fun j h h' => absurd h' (Nat.not_lt_zero _)⟩
  case round =>
    obtain ⟨k, rfl, hk, HK⟩ := hrel
    have fin : ∀ v1 w1, l.dropWhile (· == 0) = l.drop k → w1.ownsRow w.heap.size 5 1 v1 (0 + (l.length - k)) ([] ++ by8 (l.drop k)) → (w.alloc (.cells #[] 5)).grownBy w1 (Value.slice (some ⟨w.heap.size, 0, none⟩) 0 0).ownBlock → Cut w l (.returned v1) w1 := by
      intro v1 w1 h1 h2 h3
      rw [List.nil_append, Nat.zero_add] at h2
      have e1 : l.length - k = (l.drop k).length := by simp
      rw [e1] at h2
      obtain ⟨A', c', rfl⟩ : ∃ A c, v1 = .slice A (l.drop k).length c := by
        rcases h2.2 with ⟨e2, e3⟩ | ⟨g, cap, cur, e2, _⟩
        · exact ⟨none, 0, by rw [e2, e3]⟩
        · exact ⟨_, _, e2⟩
      refine ⟨A', c', by rw [h1], by rw [h1]; exact h2, ((Below.refl _ w).alloc (Nat.le_refl _) _).grown h3 (by simp) (fun k hk => ?_)⟩
      simp [Value.ownBlock] at hk
      omega
    have FIN := Lib.hid fin
    clear fin
    have hdr := (hs.from_ k (by rw [by8_len]; omega)).below ((Below.refl _ w).alloc (Nat.le_refl _) (.cells #[] 5))
    rw [← by8_drop] at hdr
    have hln : (by8 (l.drop k)).length = l.length - k := by rw [by8_len, List.length_drop]
    have HLN := Lib.hid hln
    clear hln
    have hown0 : (w.alloc (.cells #[] 5)).ownsRow w.heap.size 5 1 (.slice (some ⟨w.heap.size, 0, none⟩) 0 0) 0 [] := World.ownsRow_lit w #[] 0 (Nat.le_refl _) (Nat.zero_le _) rfl
    have hsl := run_from8 A l.length c k hk
    have exit_ : True := trivial
    by_cases hlt : k < l.length
    · obtain ⟨b, off, e, hc⟩ := hs.at_ (fun h => by have := congrArg List.length h; rw [by8_len] at this; simp at this; subst this; simp at hlt)
      subst e
      have hck := hc k _ (by8_get l k hlt)
      have HC := Lib.hid hc
      clear hc
      by_cases h0 : l[k]'hlt = 0
      · have h0' : (((l[k]'hlt : Nat) : Int) == 0) = true := by simp [h0]
        have H0 := Lib.hid h0
        clear h0
        go_wp2
        refine ⟨⟨k + 1, by go_num, by omega, fun j h h' => ?_⟩, by simp [intOf]; omega⟩
        by_cases e : j = k
        · subst e; exact H0.out
        · exact HK.out j h (by omega)
      · have h0' : (((l[k]'hlt : Nat) : Int) == 0) = false := by simp; omega
        have hd := drop_zeros l k hk HK.out (fun _ => h0)
        have HD := Lib.hid hd
        clear hd h0
        go_wp2_with (at_builtin; refine wpList_append_sl rfl (.tmp 17) (.tmp 20) 29 rfl w.heap.size 5 i0 (.int .u8 0) 1 Tryz.underlying29 hi0 hz0 hz1 hz2 rfl _ 0 [] rfl hown0 _ _ _ (by8 (l.drop k)) rfl HLN.out hdr (by8_one _) (by unfold maxLen; omega) (by omega) (by simp) ?_; intro v1 w1 hown1 hg1)
        go_ret
        exact FIN.out _ _ HD.out hown1 hg1
    · have hd := drop_zeros l k hk HK.out (fun h => absurd h hlt)
      have HD := Lib.hid hd
      clear hd
      go_wp2_with (at_builtin; refine wpList_append_sl rfl (.tmp 17) (.tmp 20) 29 rfl w.heap.size 5 i0 (.int .u8 0) 1 Tryz.underlying29 hi0 hz0 hz1 hz2 rfl _ 0 [] rfl hown0 _ _ _ (by8 (l.drop k)) rfl HLN.out hdr (by8_one _) (by unfold maxLen; omega) (by omega) (by simp) ?_; intro v1 w1 hown1 hg1)
      go_ret
      exact FIN.out _ _ HD.out hown1 hg1
/-- the digits l, the highest first, none of them a leading zero, are the number N -/
def BE (l : List Nat) (N : Nat) : Prop := Num.Can 256 l.reverse ∧ Num.le 256 l.reverse = N
theorem BE.unique {l m : List Nat} {N : Nat} (h : BE l N) (h' : BE m N) : l = m := by
  have := Num.Can.unique (by omega) h.1 h'.1 (h.2.trans h'.2.symm)
  simpa using congrArg List.reverse this
theorem BE.lt {l : List Nat} {N : Nat} (h : BE l N) : ∀ d ∈ l, d < 256 := fun d hd => h.1.dig d (by simpa using hd)
theorem BE.nil_iff {l : List Nat} {N : Nat} (h : BE l N) : l = [] ↔ N = 0 := by
  have := Num.Can.eq_nil (by omega) h.1
  rw [h.2] at this
  rw [this]
  simp
theorem BE.zero : BE [] 0 := ⟨Num.Can.nil _, rfl⟩
theorem le_dropZeros (l : List Nat) : Num.le 256 (l.dropWhile (· == 0)).reverse = Num.le 256 l.reverse := by
  induction l with
  | nil => rfl
  | cons d t ih =>
    by_cases h : d = 0
    · subst h
      simp only [List.dropWhile_cons, beq_self_eq_true, if_true, ih, List.reverse_cons, Num.le_append]
      simp [Num.le]
    · rw [List.dropWhile_cons, if_neg (by simpa using h)]
theorem BE.of_drop (l : List Nat) (hl : ∀ d ∈ l, d < 256) : BE (l.dropWhile (· == 0)) (Num.le 256 l.reverse) := by
  refine ⟨⟨fun d hd => hl d ?_, fun hne => ?_⟩, le_dropZeros l⟩
  · have : d ∈ l.dropWhile (· == 0) := by simpa using hd
    exact (List.dropWhile_sublist _).mem this
  · have hne' : l.dropWhile (· == 0) ≠ [] := fun e => hne (by rw [e]; rfl)
    have := List.head?_dropWhile_not (· == 0) l
    revert hne hne' this
    generalize l.dropWhile (· == 0) = m
    intro hne hne' this
    cases m with
    | nil => exact absurd rfl hne'
    | cons x t =>
      simp at this
      simp [this]
/-- an integer of the reference -/
def SI (w : World) (v : Value) (z : Int) : Prop :=
  ∃ A c l, v = .agg #[.bool (decide (z < 0)), .slice A l.length c] ∧ Sl w A c (by8 l) ∧ BE l z.natAbs
theorem SI.below {w w' : World} {v : Value} {z : Int} (h : SI w v z) (hb : Kept w w') : SI w' v z := by
  obtain ⟨A, c, l, e, hs, hl⟩ := h
  exact ⟨A, c, l, e, hs.below hb, hl⟩
/-- the address is in a block from B on, if there is one -/
def Fz (B : Nat) (A : Option Addr) : Prop := ∀ b off, A = some ⟨b, off, none⟩ → B ≤ b
theorem Fz.mono {B B' : Nat} {A : Option Addr} (h : Fz B A) (hB : B' ≤ B) : Fz B' A := fun b off e => Nat.le_trans hB (h b off e)
theorem Fz.ne {B k : Nat} {A : Option Addr} (h : Fz B A) (hk : k < B) : ∀ b off, A = some ⟨b, off, none⟩ → b ≠ k := fun b off e => by have := h b off e; omega
theorem Sl.setRow {w : World} {A : Option Addr} {c : Nat} {xs : List Value} (h : Sl w A c xs) {B k : Nat} (hf : Fz B A) (hk : k < B) (cs : Array Value) : Sl (w.setRow k cs) A c xs :=
  h.far (hf.ne hk) (fun j _ hj => setRow_other w k j cs hj)
/-- as 'SI', the digits in a block from B on -/
def SIf (B : Nat) (w : World) (v : Value) (z : Int) : Prop :=
  ∃ A c l, v = .agg #[.bool (decide (z < 0)), .slice A l.length c] ∧ Sl w A c (by8 l) ∧ BE l z.natAbs ∧ Fz B A
theorem SIf.toSI {B : Nat} {w : World} {v : Value} {z : Int} (h : SIf B w v z) : SI w v z := by
  obtain ⟨A, c, l, e, hs, hl, _⟩ := h
  exact ⟨A, c, l, e, hs, hl⟩
theorem SIf.below {B : Nat} {w w' : World} {v : Value} {z : Int} (h : SIf B w v z) (hb : Kept w w') : SIf B w' v z := by
  obtain ⟨A, c, l, e, hs, hl, hf⟩ := h
  exact ⟨A, c, l, e, hs.below hb, hl, hf⟩
theorem SIf.mono {B B' : Nat} {w : World} {v : Value} {z : Int} (h : SIf B w v z) (hB : B' ≤ B) : SIf B' w v z := by
  obtain ⟨A, c, l, e, hs, hl, hf⟩ := h
  exact ⟨A, c, l, e, hs, hl, hf.mono hB⟩
theorem SIf.setRow {B : Nat} {w : World} {v : Value} {z : Int} (h : SIf B w v z) {k : Nat} (hk : k < B) (cs : Array Value) : SIf B (w.setRow k cs) v z := by
  obtain ⟨A, c, l, e, hs, hl, hf⟩ := h
  exact ⟨A, c, l, e, hs.setRow hf hk cs, hl, hf⟩
theorem SIf.two {B : Nat} {w : World} {v : Value} {z : Int} (h : SIf B w v z) : ∃ b A n c, v = .agg #[.bool b, .slice A n c] := by
  obtain ⟨A, c, l, e, _⟩ := h
  exact ⟨_, _, _, _, e⟩
def RetSI (w : World) (z : Int) (e : Ending) (w' : World) : Prop := ∃ v, e = .returned v ∧ SIf w.heap.size w' v z ∧ Kept w w'
def sgn (b : Bool) (N : Nat) : Int := if b then -(N : Int) else N
theorem info_SI : (Tryz.prog.info? 65).map (·.size) = some 2 := by kernel_rfl
theorem blk_after {w w2 : World} {o : Obj} (hb : Kept (w.alloc o) w2) : w2.heap[w.heap.size]? = some o :=
  (hb.block w.heap.size (by simp)).trans (heap_alloc_new w o)
theorem alloc_kept {w w2 : World} {o : Obj} (hb : Kept (w.alloc o) w2) : Kept w w2 ∧ w.heap.size < w2.heap.size :=
  ⟨Below.trans ((Below.refl _ w).alloc (Nat.le_refl _) o) (hb.mono (by simp)), by have := hb.size; simp at this; omega⟩
set_option maxRecDepth 100000 in
theorem Of_any (b : Bool) (A : Option Addr) (c : Nat) (l : List Nat) (hl : l.length ≤ 140737488351232) (hd : ∀ d ∈ l, d < 256) (w : World) (hs : Sl w A c (by8 l)) :
    Calls Tryz.prog 22 #[.bool b, .slice A l.length c] w (RetSI w (sgn b (Num.le 256 l.reverse))) := by
  go_enter Tryz.func22, Tryz.ntmps22
  go_wp2_with fail
  refine (cut_any A c l hl _ (hs.below ((Below.refl _ w).alloc (Nat.le_refl _) _))).mono ?_
  rintro e w1 ⟨A1, c1, rfl, ho1, hb1⟩
  have hB := BE.of_drop l hd
  generalize hm : l.dropWhile (· == 0) = m at *
  generalize hN : Num.le 256 l.reverse = N at *
  clear hm hN hs
  have hk := blk_after hb1
  have H := Lib.hid hk
  clear hk
  obtain ⟨hw1, hz1⟩ := alloc_kept hb1
  have hnil := hB.nil_iff
  have HB := Lib.hid hB
  clear hB
  have fin : ∀ b', b' = decide (sgn b N < 0) → RetSI w (sgn b N) (.returned (.agg #[.bool b', .slice A1 m.length c1])) (w1.setRow w.heap.size #[.bool b', .slice A1 m.length c1]) := by
    rintro b' rfl
    refine ⟨_, rfl, ⟨A1, c1, m, rfl, ?_, ?_, fun b off e => ?_⟩, below_setRow hw1 (Nat.le_refl _) _⟩
    · exact Sl.far (g := w.heap.size) (Sl.of_own ho1).1 (own_far ho1 (by simp)) (fun k hk hne => setRow_other _ _ _ _ hne)
    · have : (sgn b N).natAbs = N := by cases b <;> simp [sgn]
      rw [this]; exact HB.out
    · subst e
      have := (ho1.lt b rfl).1
      simp at this
      omega
  cases b
  · go_wp2_with (refine wpList_store_row rfl 65 (.tmp 4) (.tmp 15) rfl w.heap.size _ rfl rfl 65 _ H.out info_SI rfl (by simp [Value.oneCell']) ?_)
    refine bodyPost_blk (cs := #[.bool false, .slice A1 m.length c1]) rfl rfl (setRow_heap _ _ _ _ _ _ H.out) Tryz.underlying65 rfl (by exact info_SI) rfl ?_
    exact fin false (by simp [sgn])
  · have hpos : decide (0 < m.length) = decide (sgn true N < 0) := by
      rw [Bool.eq_iff_iff]
      simp only [decide_eq_true_eq, sgn, if_true]
      constructor
      · intro h
        have : N ≠ 0 := fun h0 => by rw [hnil.2 h0] at h; simp at h
        omega
      · intro h
        rcases Nat.eq_zero_or_pos m.length with h0 | h0
        · have := hnil.1 (List.eq_nil_of_length_eq_zero h0); omega
        · exact h0
    have HP := Lib.hid hpos
    clear hpos hnil
    generalize hq : m.length = q at *
    clear hq
    go_wp2_with (refine wpList_store_row rfl 65 (.tmp 4) (.tmp 15) rfl w.heap.size _ rfl rfl 65 _ H.out info_SI rfl (by simp [Value.oneCell']) ?_)
    refine bodyPost_blk (cs := #[.bool (decide (0 < q)), .slice A1 q c1]) rfl rfl (setRow_heap _ _ _ _ _ _ H.out) Tryz.underlying65 rfl (by exact info_SI) rfl ?_
    exact fin _ HP.out
end Go.Proofs.YtoociokhldakbaaGreat
