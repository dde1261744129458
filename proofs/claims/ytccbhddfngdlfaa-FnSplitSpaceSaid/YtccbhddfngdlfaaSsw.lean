/- The walks and plain laws of FnSplitSpace: cutting a text at white space gives the same parts as the reference, for every text below 128 of at most 2147483647 bytes and every bound from 0 to 11. -/
import Derived.Test.YtccbhddfngdlfaaRows
import Derived.WalkKit
import Derived.ProofKit
import Derived.Outline
import Derived.Handy
import Derived.WalkLawsBesides
import Derived.WalkSpells
import Derived.Deep.QuietTactic
import Derived.Deep.RegionWith
import Derived.BigQuiet
import Derived.Lib.Hide
import Derived.Laws.CopyOwn
import Derived.Lib.OthersKept
import Derived.Lib.Strings
namespace Go.Proofs.Ytccbhddfngdlfaa.fnSplitSpace
open Go.ChangeShapes Go.WideShapes Go.ChangeAt Go.RowKit
set_option linter.unusedVariables false
namespace SS
/-- white space below 128 -/
def bl (c : UInt8) : Bool := c == 32 || (decide (9 ≤ c.toNat) && decide (c.toNat ≤ 13))
/-- the parts between white space, when n of at most `most` cuts are done -/
def W (most : Nat) : Nat → List UInt8 → Nat → List (List UInt8)
  | 0, _, _ => []
  | f + 1, l, n => match l.dropWhile bl with
    | [] => []
    | c :: t => if n = most then [c :: t] else ((c :: t).takeWhile (fun x => !bl x)) :: W most f ((c :: t).dropWhile (fun x => !bl x)) (n + 1)
theorem length_dropWhile_le {α : Type} (p : α → Bool) : ∀ l : List α, (l.dropWhile p).length ≤ l.length
  | [] => Nat.le_refl _
  | a :: l => by
    rw [List.dropWhile_cons]
    split
    · exact Nat.le_succ_of_le (length_dropWhile_le p l)
    · exact Nat.le_refl _
theorem W_succ (most f : Nat) (l : List UInt8) (n : Nat) (c : UInt8) (t : List UInt8) (h : l.dropWhile bl = c :: t) :
    W most (f + 1) l n = if n = most then [c :: t] else ((c :: t).takeWhile (fun x => !bl x)) :: W most f ((c :: t).dropWhile (fun x => !bl x)) (n + 1) := by
  simp only [W, h]
theorem W_fuel (most : Nat) : ∀ (f g : Nat) (l : List UInt8) (n : Nat), l.length < f → l.length < g → W most f l n = W most g l n := by
  intro f
  induction f with
  | zero => intro g l n h; omega
  | succ f ih =>
    intro g l n hf hg
    cases g with
    | zero => omega
    | succ g =>
      simp only [W]
      have hl := length_dropWhile_le bl l
      cases hd : l.dropWhile bl with
      | nil => rfl
      | cons c t =>
        simp only
        rw [hd] at hl
        have hc : bl c = false := by
          have := List.head?_dropWhile_not bl l
          rw [hd] at this
          simpa using this
        have h2 : ((c :: t).dropWhile (fun x => !bl x)).length ≤ t.length := by
          rw [List.dropWhile_cons, if_pos (by simp [hc])]
          exact length_dropWhile_le _ _
        simp only [List.length_cons] at hl
        rw [ih g _ (n + 1) (by omega) (by omega)]
/-- all of it -/
def words (most : Nat) (l : List UInt8) (n : Nat) : List (List UInt8) := W most (l.length + 1) l n
theorem words_nil (most n : Nat) : words most [] n = [] := rfl
theorem words_blank (most : Nat) (c : UInt8) (l : List UInt8) (n : Nat) (h : bl c = true) : words most (c :: l) n = words most l n := by
  unfold words
  rw [W_fuel most _ (l.length + 2) l n (by omega) (by omega)]
  show W most (l.length + 1 + 1) (c :: l) n = W most (l.length + 1 + 1) l n
  simp only [W, List.dropWhile_cons, h, if_true]
theorem words_last (most : Nat) (c : UInt8) (l : List UInt8) (h : bl c = false) : words most (c :: l) most = [c :: l] := by
  unfold words
  show W most (l.length + 1 + 1) (c :: l) most = _
  simp [W, h]
theorem words_cons (most : Nat) (l : List UInt8) (n k : Nat) (hn : n ≠ most) (h0 : 0 < k) (hk : k ≤ l.length) (hb : ∀ j (hj : j < k), bl (l[j]'(by omega)) = false) (he : ∀ (h : k < l.length), bl (l[k]'h) = true) :
    words most l n = l.take k :: words most (l.drop k) (n + 1) := by
  have ht : l.takeWhile (fun x => !bl x) = l.take k ∧ l.dropWhile (fun x => !bl x) = l.drop k := by
    have key : ∀ (k : Nat) (l : List UInt8) (hk : k ≤ l.length), (∀ j (hj : j < k), bl (l[j]'(by omega)) = false) → (∀ (h : k < l.length), bl (l[k]'h) = true) →
        l.takeWhile (fun x => !bl x) = l.take k ∧ l.dropWhile (fun x => !bl x) = l.drop k := by
      intro k
      induction k with
      | zero =>
        intro l _ _ he
        cases l with
        | nil => exact ⟨rfl, rfl⟩
        | cons c t =>
          have := he (by simp)
          simp only [List.getElem_cons_zero] at this
          simp [this]
      | succ k ih =>
        intro l hk hb he
        cases l with
        | nil => simp at hk
        | cons c t =>
          have hc := hb 0 (by omega)
          simp only [List.getElem_cons_zero] at hc
          obtain ⟨h1, h2⟩ := ih t (by simpa using hk) (fun j hj => by have := hb (j + 1) (by omega); simpa using this) (fun h => by have := he (by simpa using h); simpa using this)
          simp [hc, h1, h2]
    exact key k l hk hb he
  cases l with
  | nil => simp at hk; omega
  | cons c t =>
    have hc := hb 0 h0
    simp only [List.getElem_cons_zero] at hc
    unfold words
    show W most (t.length + 1 + 1) (c :: t) n = _
    have hd : (c :: t).dropWhile bl = c :: t := by simp [hc]
    rw [W_succ most _ _ _ c t hd, if_neg hn, ht.1, ht.2]
    congr 1
    refine W_fuel most _ _ _ _ ?_ ?_
    · simp; omega
    · omega
end SS
theorem info9 : (Try.prog.info? 9).map (fun i => (i.zero, i.size, i.bytes)) = some (some (.string ByteArray.empty), 1, 16) := by kernel_rfl
theorem isSpace_any (c : UInt8) (hc : c.toNat < 128) (w : World) :
    Calls Try.prog 50 #[.int .i32 (c.toNat : Int)] w fun e w' => e = .returned (.bool (SS.bl c)) ∧ w = w' := by
  have key : SS.bl c = (decide ((c.toNat : Int) = 32) || (decide (9 ≤ (c.toNat : Int)) && decide ((c.toNat : Int) ≤ 13))) := by
    unfold SS.bl
    have h1 : (c == 32) = decide ((c.toNat : Int) = 32) := by
      rw [Bool.eq_iff_iff]; simp only [beq_iff_eq, decide_eq_true_eq]
      constructor
      · rintro rfl; rfl
      · intro h; exact UInt8.toNat_inj.1 (by show c.toNat = 32; omega)
    have h2 : decide (9 ≤ c.toNat) = decide (9 ≤ (c.toNat : Int)) := by
      rw [Bool.eq_iff_iff]; simp only [decide_eq_true_eq]; omega
    have h3 : decide (c.toNat ≤ 13) = decide ((c.toNat : Int) ≤ 13) := by
      rw [Bool.eq_iff_iff]; simp only [decide_eq_true_eq]; omega
    rw [h1, h2, h3]
  rw [key]
  clear key
  have hx : (c.toNat : Int) < 128 := by omega
  generalize (c.toNat : Int) = x at *
  clear hc
  by_cases h1 : x = 32
  · subst h1
    go_enter Try.func50, Try.ntmps50
    go_wp2
    go_ret
    exact ⟨rfl, rfl⟩
  · have h1' : (x == 32) = false := by simpa using h1
    simp only [h1, decide_false, Bool.false_or]
    clear h1
    by_cases h2 : 9 ≤ x
    · by_cases h3 : x ≤ 13
      · simp only [h2, h3, decide_true, Bool.and_self]
        go_enter Try.func50, Try.ntmps50
        go_wp2
        go_ret
        exact ⟨rfl, rfl⟩
      · simp only [h2, h3, decide_true, decide_false, Bool.and_false]
        go_enter Try.func50, Try.ntmps50
        go_wp2
        go_ret
        exact ⟨rfl, rfl⟩
    · simp only [h2, decide_false, Bool.false_and]
      go_enter Try.func50, Try.ntmps50
      go_wp2
      go_ret
      exact ⟨rfl, rfl⟩
def strs (r : List (List UInt8)) : List Value := r.map fun b => Value.string ⟨b.toArray⟩
def Ascii (s : ByteArray) : Prop := ∀ j (h : j < s.size), (s[j]'h).toNat < 128
structure At (l : List UInt8) (m pos b : Nat) (r : List (List UInt8)) (st : Int) : Prop where
  le : b ≤ pos
  eq : SS.words m l 0 = r ++ SS.words m (l.drop b) r.length
  non : ∀ j (h : j < l.length), b ≤ j → j < pos → SS.bl (l[j]'h) = false
  st_ : (st = -1 ∧ b = pos) ∨ (st = (b : Int) ∧ b < pos)
  len : r.length ≤ pos
namespace At
variable {l : List UInt8} {m pos b : Nat} {r : List (List UInt8)}
theorem words_drop (h : pos < l.length) (hb : SS.bl (l[pos]'h) = true) (n : Nat) : SS.words m (l.drop pos) n = SS.words m (l.drop (pos + 1)) n := by
  rw [List.drop_eq_getElem_cons h, SS.words_blank _ _ _ _ hb]
theorem skip (h : At l m pos b r (-1)) (hp : pos < l.length) (hb : SS.bl (l[pos]'hp) = true) : At l m (pos + 1) (pos + 1) r (-1) := by
  obtain ⟨_, rfl⟩ : (-1 : Int) = -1 ∧ b = pos := by
    rcases h.st_ with h1 | ⟨h1, _⟩
    · exact h1
    · omega
  exact ⟨Nat.le_refl _, by rw [← words_drop hp hb]; exact h.eq, fun j _ _ _ => by omega, .inl ⟨rfl, rfl⟩, by have := h.len; omega⟩
theorem start (h : At l m pos b r (-1)) (hp : pos < l.length) (hb : SS.bl (l[pos]'hp) = false) : At l m (pos + 1) pos r pos := by
  obtain ⟨_, rfl⟩ : (-1 : Int) = -1 ∧ b = pos := by
    rcases h.st_ with h1 | ⟨h1, _⟩
    · exact h1
    · omega
  refine ⟨by omega, h.eq, fun j hj h1 h2 => ?_, .inr ⟨rfl, by omega⟩, by have := h.len; omega⟩
  obtain rfl : j = b := by omega
  exact hb
theorem more (h : At l m pos b r b) (hbp : b < pos) (hp : pos < l.length) (hb : SS.bl (l[pos]'hp) = false) : At l m (pos + 1) b r b := by
  refine ⟨by omega, h.eq, fun j hj h1 h2 => ?_, .inr ⟨rfl, by omega⟩, by have := h.len; omega⟩
  by_cases e : j = pos
  · subst e; exact hb
  · exact h.non j hj h1 (by omega)
theorem cut (h : At l m pos b r b) (hbp : b < pos) (hp : pos < l.length) (hb : SS.bl (l[pos]'hp) = true) (hrm : r.length ≠ m) :
    At l m (pos + 1) (pos + 1) (r ++ [(l.drop b).take (pos - b)]) (-1) := by
  refine ⟨Nat.le_refl _, ?_, fun j _ _ _ => by omega, .inl ⟨rfl, rfl⟩, by have := h.len; simp; omega⟩
  rw [h.eq, SS.words_cons m (l.drop b) r.length (pos - b) hrm (by omega) (by simp; omega) (fun j hj => by simp only [List.getElem_drop]; exact h.non _ _ (by omega) (by omega))
    (fun hh => by simp only [List.getElem_drop]; rw [← hb]; congr 2; omega)]
  rw [List.drop_drop, show b + (pos - b) = pos by omega, words_drop hp hb]
  simp
theorem last (h : At l r.length pos b r b) (hbp : b < pos) (hp : pos ≤ l.length) : SS.words r.length l 0 = r ++ [l.drop b] := by
  rw [h.eq, List.drop_eq_getElem_cons (by omega : b < l.length), SS.words_last _ _ _ (h.non b (by omega) (Nat.le_refl _) hbp)]
theorem fin (h : At l m l.length b r (-1)) : SS.words m l 0 = r := by
  obtain ⟨_, rfl⟩ : (-1 : Int) = -1 ∧ b = l.length := by
    rcases h.st_ with h1 | ⟨h1, _⟩
    · exact h1
    · omega
  rw [h.eq]
  simp [SS.words_nil]
theorem fin2 (h : At l m l.length b r b) (hbp : b < l.length) : SS.words m l 0 = r ++ [l.drop b] := by
  by_cases e : r.length = m
  · subst e; exact last h hbp (Nat.le_refl _)
  · rw [h.eq, SS.words_cons m (l.drop b) r.length (l.length - b) e (by omega) (by simp) (fun j hj => by simp only [List.getElem_drop]; exact h.non _ _ (by omega) (by omega)) (fun hh => by simp at hh)]
    rw [List.drop_drop, show b + (l.length - b) = l.length by omega, List.take_of_length_le (by simp)]
    simp [SS.words_nil]
end At
theorem slice_of {w : World} {base n : Nat} {e : TypeId} {size : Nat} {v : Value} {xs : List Value} (h : w.ownsRow base e size v n xs) : ∃ A cap, v = .slice A n cap := by
  rcases h.2 with ⟨h1, h2⟩ | ⟨g, cap, cur, h1, _⟩
  · subst h2; exact ⟨none, 0, h1⟩
  · exact ⟨_, _, h1⟩
theorem ownsRow_mono {w : World} {base base' n : Nat} {e : TypeId} {size : Nat} {v : Value} {xs : List Value} (h : w.ownsRow base e size v n xs) (hb : base' ≤ base) : w.ownsRow base' e size v n xs := by
  obtain ⟨h1, h2⟩ := h
  refine ⟨h1, ?_⟩
  rcases h2 with h2 | ⟨g, cap, cur, h2, h3, h4⟩
  · exact .inl h2
  · exact .inr ⟨g, cap, cur, h2, by omega, h4⟩
theorem below_append {B base n : Nat} {w W w1 : World} {e : TypeId} {size : Nat} {v : Value} {xs : List Value} {o : Obj} (hb : Below B w W) (hB : B ≤ W.heap.size) (hown : W.ownsRow base e size v n xs) (hbase : B ≤ base)
    (hg : (W.alloc o).grownBy w1 v.ownBlock) : Below B w w1 :=
  (hb.alloc hB o).grown hg (by simp; omega) (fun k hk => Nat.le_trans hbase (hown.lt k hk).1)
theorem strs_cut (s : ByteArray) (r : List (List UInt8)) (b k : Nat) : strs r ++ [Value.string (s.extract b k)] = strs (r ++ [(s.data.toList.drop b).take (k - b)]) := by
  simp [strs, Lib.extract_eq]
theorem strs_end (s : ByteArray) (r : List (List UInt8)) (b : Nat) : strs r ++ [Value.string (s.extract b s.size)] = strs (r ++ [s.data.toList.drop b]) := by
  rw [strs_cut, List.take_of_length_le]
  simp
theorem kept_append {W w1 : World} {base n k : Nat} {e : TypeId} {size : Nat} {v : Value} {xs : List Value} {o : Obj} (hown : W.ownsRow base e size v n xs) (hk : k < base) (hs : k < W.heap.size)
    (hg : (W.alloc o).grownBy w1 v.ownBlock) : w1.heap[k]? = W.heap[k]? :=
  (hg.block k (by simp; omega) (fun e => by have := (hown.lt k e.symm).1; omega)).trans (Below.heap_alloc W o k hs)
def Texts (w : World) (L : List (List UInt8)) (e : Ending) (w' : World) : Prop := ∃ v n, e = .returned v ∧ w'.ownsRow w.heap.size 9 1 v n (strs L) ∧ Below w.heap.size w w'
theorem len_strs (r : List (List UInt8)) : (strs r).length = r.length * 1 := by simp [strs]
theorem cell_one_new' (w : World) (v : Value) (t : TypeId) : ∀ j u, [v][j]? = some u → (w.alloc (.cells #[v] t)).cell? ((⟨w.heap.size, 0, none⟩ : Addr).add j) = some u := cell_one_new _ _ _
set_option maxRecDepth 100000 in
theorem split_any (s : ByteArray) (m : Nat) (hs : s.size ≤ 2147483647) (hm : m ≤ 255) (ha : Ascii s) (w : World) :
    Calls Try.prog 37 #[.string s, .int .i64 (m : Int)] w (Texts w (SS.words m s.data.toList 0)) := by
  obtain ⟨i0, hi0, hz0, hz1, hz2⟩ := info_parts info9
  have hmI : (m : Int) ≤ 255 := by omega
  go_enter Try.func37, Try.ntmps37
  go_wp2
  go_loopw [5, 6] (fun v st wr => ∃ (pos b : Nat) (r : List (List UInt8)) (q : Int), st = .int .i64 q ∧ pos ≤ s.size ∧ At s.data.toList m pos b r q ∧ wr.heap[w.heap.size]? = some (.stringIter s pos) ∧ wr.ownsRow (w.heap.size + 1) 9 1 v r.length (strs r) ∧ Below w.heap.size w wr) (fun _ _ wr => s.size - wr.iterPos w.heap.size)
  case atStart =>
    refine ⟨0, 0, [], -1, rfl, Nat.zero_le _, ⟨Nat.le_refl _, by simp, fun j _ _ h => by omega, .inl ⟨rfl, rfl⟩, Nat.le_refl _⟩, World.iter_heap w s 0, World.ownsRow_nil _ _ _ _, (Below.refl _ w).alloc (Nat.le_refl _) _⟩
  case round =>
    obtain ⟨pos, b, r, q, rfl, hpos, hat, hit, hown, hbw⟩ := hrel
    have hsz : w.heap.size < wr.heap.size := (Array.getElem?_eq_some_iff.1 hit).1
    by_cases hp : pos < s.size
    · have hnx : ∀ ty, (Instr.next (.pointer (some ⟨w.heap.size, 0, none⟩)) true ty).run Try.prog wr = _ := fun ty => Lib.run_next_ascii_at wr w.heap.size s pos ty hit hp (ha pos hp)
      have hit2 := Lib.iterAt_heap wr w.heap.size s pos (pos + 1) hit
      have hbw2 := Lib.below_iterAt hbw (k := w.heap.size) (by omega) s (pos + 1)
      have hown2 := ownsRow_iterAt hown (k := w.heap.size) (by omega) s (pos + 1)
      obtain ⟨A, cap, hv⟩ := slice_of hown2
      subst hv
      have hlen := hat.len
      have hsz2 : w.heap.size < (wr.iterAt w.heap.size s (pos + 1)).heap.size := by rw [Lib.iterAt_size]; exact hsz
      have hmeas : s.size - (wr.iterAt w.heap.size s (pos + 1)).iterPos w.heap.size < s.size - wr.iterPos w.heap.size := by
        rw [iterPos_of hit2, iterPos_of hit]; omega
      rcases hat.st_ with ⟨hq, hbp⟩ | ⟨hq, hbp⟩
      · subst hq
        cases hbl : SS.bl (s[pos]'hp)
        · have hn := At.start hat hp hbl
          go_wp2_with (go_at_call 50; refine (isSpace_any _ (ha pos hp) _).mono ?_; rintro e w1 ⟨rfl, rfl⟩)
          exact ⟨⟨pos + 1, pos, r, _, rfl, by omega, hn, hit2, hown2, hbw2⟩, hmeas⟩
        · have hn := At.skip hat hp hbl
          go_wp2_with (go_at_call 50; refine (isSpace_any _ (ha pos hp) _).mono ?_; rintro e w1 ⟨rfl, rfl⟩)
          exact ⟨⟨pos + 1, pos + 1, r, _, rfl, by omega, hn, hit2, hown2, hbw2⟩, hmeas⟩
      · subst hq
        cases hbl : SS.bl (s[pos]'hp)
        · have hn := At.more hat hbp hp hbl
          go_wp2_with (go_at_call 50; refine (isSpace_any _ (ha pos hp) _).mono ?_; rintro e w1 ⟨rfl, rfl⟩)
          exact ⟨⟨pos + 1, b, r, _, rfl, by omega, hn, hit2, hown2, hbw2⟩, hmeas⟩
        · by_cases hrm : r.length = m
          · subst hrm
            have hn := At.last hat hbp (Nat.le_of_lt hp)
            have HN := Lib.hid hn
            clear hn
            go_wp2_with (first | (go_at_call 50; refine (isSpace_any _ (ha pos hp) _).mono ?_; rintro e w1 ⟨rfl, rfl⟩) | (at_builtin; refine wpList_append_own _ rfl (.tmp 35) (.tmp 39) 22 rfl (w.heap.size + 1) 9 i0 (.string ByteArray.empty) 1 16 Try.underlying22 hi0 hz0 hz1 hz2 rfl (by decide) _ r.length (strs r) rfl (hown2.alloc _) ⟨_, 0, none⟩ 1 1 [.string (s.extract b s.size)] rfl rfl (cell_one_new _ _ _) (by simp [Value.oneCell']) (by unfold maxLen; omega) (by omega) (by simp; omega) ?_; intro v1 w1 hown3 hg _))
            go_ret
            refine ⟨v1, r.length + 1, rfl, ?_, below_append hbw2 (by omega) hown2 (Nat.le_succ _) hg⟩
            rw [HN.out]
            have := ownsRow_mono hown3 (Nat.le_succ _)
            rwa [strs_end] at this
          · have hn := At.cut hat hbp hp hbl hrm
            have hrm' : ((r.length : Int) == (m : Int)) = false := by simp; omega
            go_wp2_with (first | (go_at_call 50; refine (isSpace_any _ (ha pos hp) _).mono ?_; rintro e w1 ⟨rfl, rfl⟩) | (at_builtin; refine wpList_append_own _ rfl (.tmp 23) (.tmp 28) 22 rfl (w.heap.size + 1) 9 i0 (.string ByteArray.empty) 1 16 Try.underlying22 hi0 hz0 hz1 hz2 rfl (by decide) _ r.length (strs r) rfl (hown2.alloc _) ⟨_, 0, none⟩ 1 1 [.string (s.extract b pos)] rfl rfl (cell_one_new _ _ _) (by simp [Value.oneCell']) (by unfold maxLen; omega) (by omega) (by simp; omega) ?_; intro v1 w1 hown3 hg _))
            have hit3 := (kept_append (k := w.heap.size) hown2 (Nat.lt_succ_self _) hsz2 hg).trans hit2
            rw [strs_cut] at hown3
            refine ⟨⟨pos + 1, pos + 1, r ++ [(s.data.toList.drop b).take (pos - b)], _, rfl, by omega, hn, hit3, by simpa using hown3, below_append hbw2 (by omega) hown2 (Nat.le_succ _) hg⟩, ?_⟩
            rw [iterPos_of hit3, iterPos_of hit]; omega
    · have hnx : ∀ ty, (Instr.next (.pointer (some ⟨w.heap.size, 0, none⟩)) true ty).run Try.prog wr = _ := fun ty => Lib.run_next_end_at wr w.heap.size s pos ty hit hp
      obtain rfl : pos = s.size := by omega
      obtain ⟨A, cap, hv⟩ := slice_of hown
      subst hv
      have hlen := hat.len
      rcases hat.st_ with ⟨hq, hbp⟩ | ⟨hq, hbp⟩
      · subst hq
        have hn := At.fin hat
        have HN := Lib.hid hn
        clear hn
        go_wp2
        go_ret
        refine ⟨_, r.length, rfl, ?_, hbw⟩
        rw [HN.out]
        exact ownsRow_mono hown (Nat.le_succ _)
      · subst hq
        have hn := At.fin2 hat hbp
        have HN := Lib.hid hn
        clear hn
        go_wp2_with ((at_builtin; refine wpList_append_own _ rfl (.tmp 35) (.tmp 39) 22 rfl (w.heap.size + 1) 9 i0 (.string ByteArray.empty) 1 16 Try.underlying22 hi0 hz0 hz1 hz2 rfl (by decide) _ r.length (strs r) rfl (hown.alloc _) ⟨_, 0, none⟩ 1 1 [.string (s.extract b s.size)] rfl rfl (cell_one_new _ _ _) (by simp [Value.oneCell']) (by unfold maxLen; omega) (by omega) (by simp; omega) ?_; intro v1 w1 hown3 hg _))
        go_ret
        refine ⟨v1, r.length + 1, rfl, ?_, below_append hbw (by omega) hown (Nat.le_succ _) hg⟩
        rw [HN.out]
        have := ownsRow_mono hown3 (Nat.le_succ _)
        rwa [strs_end] at this
theorem bl_int (c : UInt8) : SS.bl c = (decide ((c.toNat : Int) = 32) || (decide (9 ≤ (c.toNat : Int)) && decide ((c.toNat : Int) ≤ 13))) := by
  unfold SS.bl
  have h1 : (c == 32) = decide ((c.toNat : Int) = 32) := by
    rw [Bool.eq_iff_iff]; simp only [beq_iff_eq, decide_eq_true_eq]
    constructor
    · rintro rfl; rfl
    · intro h; exact UInt8.toNat_inj.1 (by show c.toNat = 32; omega)
  have h2 : decide (9 ≤ c.toNat) = decide (9 ≤ (c.toNat : Int)) := by
    rw [Bool.eq_iff_iff]; simp only [decide_eq_true_eq]; omega
  have h3 : decide (c.toNat ≤ 13) = decide ((c.toNat : Int) ≤ 13) := by
    rw [Bool.eq_iff_iff]; simp only [decide_eq_true_eq]; omega
  rw [h1, h2, h3]
set_option maxRecDepth 100000 in
theorem blank_any (c : UInt8) (w : World) :
    Calls Try.prog 36 #[.int .u8 (c.toNat : Int)] w fun e w' => e = .returned (.bool (SS.bl c)) ∧ w = w' := by
  rw [bl_int]
  have hx : (c.toNat : Int) < 256 := by have := c.toNat_lt; omega
  generalize (c.toNat : Int) = x at *
  by_cases h1 : x = 32
  · subst h1
    go_enter Try.func36, Try.ntmps36
    go_wp2
    go_ret
    exact ⟨rfl, rfl⟩
  · have h1' : (x == 32) = false := by simpa using h1
    simp only [h1, decide_false, Bool.false_or]
    clear h1
    by_cases h2 : 9 ≤ x
    · by_cases h3 : x ≤ 13
      · simp only [h2, h3, decide_true, Bool.and_self]
        go_enter Try.func36, Try.ntmps36
        go_wp2
        go_ret
        exact ⟨rfl, rfl⟩
      · simp only [h2, h3, decide_true, decide_false, Bool.and_false]
        go_enter Try.func36, Try.ntmps36
        go_wp2
        go_ret
        exact ⟨rfl, rfl⟩
    · simp only [h2, decide_false, Bool.false_and]
      go_enter Try.func36, Try.ntmps36
      go_wp2
      go_ret
      exact ⟨rfl, rfl⟩
def szOf : Value → Nat | .string s => s.size | _ => 0
theorem size_list (t : ByteArray) : t.data.toList.length = t.size := rfl
theorem empty_iff (t : ByteArray) : t.toList.isEmpty = decide (t.size = 0) := by
  rw [ByteArray.toList_eq]
  obtain ⟨⟨l⟩⟩ := t
  cases l <;> rfl
theorem words_tail (m : Nat) (t : ByteArray) (h : 0 < t.size) (hb : SS.bl (t[0]'h) = true) (n : Nat) : SS.words m t.data.toList n = SS.words m (t.extract 1 t.size).data.toList n := by
  rw [Lib.extract_data, List.take_of_length_le (by rw [List.length_drop, size_list]; omega), ← SS.words_blank m (t[0]'h) (t.data.toList.drop 1) n hb]
  congr 1
  obtain ⟨⟨l⟩⟩ := t
  cases l with
  | nil => exact absurd h (Nat.lt_irrefl 0)
  | cons c l => rfl
theorem step (t : List UInt8) (k m n : Nat) (h0 : 0 < t.length) (hb : SS.bl (t[0]'h0) = false) (hk : k ≤ t.length) (hall : ∀ j (h : j < t.length), j < k → n = m ∨ SS.bl (t[j]'h) = false)
    (hex : k = t.length ∨ ∃ h : k < t.length, n ≠ m ∧ SS.bl (t[k]'h) = true) : SS.words m t n = t.take k :: SS.words m (t.drop k) (n + 1) ∧ 0 < k := by
  have hk0 : 0 < k := by
    rcases hex with h | ⟨h, _, h2⟩
    · omega
    · rcases Nat.eq_zero_or_pos k with h3 | h3
      · subst h3; rw [hb] at h2; cases h2
      · exact h3
  refine ⟨?_, hk0⟩
  by_cases e : n = m
  · subst e
    rcases hex with h | ⟨h, h1, _⟩
    · subst h
      cases t with
      | nil => simp at h0
      | cons c t =>
        rw [SS.words_last _ _ _ (show SS.bl c = false from hb)]
        simp [SS.words_nil]
    · exact absurd rfl h1
  · refine SS.words_cons m t n k e hk0 hk (fun j hj => ?_) (fun h => ?_)
    · rcases hall j (by omega) hj with h | h
      · exact absurd h e
      · exact h
    · rcases hex with h1 | ⟨h1, _, h2⟩
      · omega
      · exact h2
theorem get_list (t : ByteArray) (j : Nat) (h : j < t.size) : (t.data.toList[j]'h) = t[j]'h := rfl
theorem cut_eq {l t : List UInt8} {m k : Nat} {r : List (List UInt8)} {t' : ByteArray} (h1 : SS.words m l 0 = r ++ SS.words m t r.length) (h2 : SS.words m t r.length = SS.words m t'.data.toList r.length)
    (h3 : SS.words m t'.data.toList r.length = t'.data.toList.take k :: SS.words m (t'.data.toList.drop k) (r.length + 1)) :
    SS.words m l 0 = (r ++ [(t'.data.toList.drop 0).take (k - 0)]) ++ SS.words m (t'.extract k t'.size).data.toList (r ++ [(t'.data.toList.drop 0).take (k - 0)]).length := by
  have e : (t'.extract k t'.size).data.toList = t'.data.toList.drop k := by
    rw [Lib.extract_data]; exact List.take_of_length_le (by rw [List.length_drop, size_list]; omega)
  rw [h1, h2, h3, e]
  simp
set_option maxRecDepth 100000 in
set_option maxHeartbeats 1000000 in
theorem words_any (s : ByteArray) (m : Nat) (hs : s.size ≤ 2147483647) (hm : m ≤ 255) (w : World) :
    Calls Try.prog 17 #[.string s, .bool false, .int .i64 (m : Int)] w (Texts w (SS.words m s.data.toList 0)) := by
  obtain ⟨i0, hi0, hz0, hz1, hz2⟩ := info_parts info9
  have hmI : (m : Int) ≤ 255 := by omega
  go_enter Try.func17, Try.ntmps17
  go_wp2
  go_loopw [0, 7] (fun sv v wr => ∃ (t : ByteArray) (r : List (List UInt8)), sv = .string t ∧ SS.words m s.data.toList 0 = r ++ SS.words m t.data.toList r.length ∧ r.length + t.size ≤ s.size ∧ wr.ownsRow w.heap.size 9 1 v r.length (strs r) ∧ Below w.heap.size w wr) (fun sv _ _ => szOf sv)
  case atStart =>
    exact ⟨s, [], rfl, rfl, by simp, World.ownsRow_nil _ _ _ _, Below.refl _ w⟩
  case round =>
    obtain ⟨t, r, rfl, heq, hlen, hown, hbw⟩ := hrel
    have hbz := hbw.size
    have HE := Lib.hid heq
    clear heq
    obtain ⟨A, cap, hv⟩ := slice_of hown
    subst hv
    go_wp2
    go_loop [0] (fun sv => ∃ (t' : ByteArray), sv = .string t' ∧ Hid (SS.words m t.data.toList r.length = SS.words m t'.data.toList r.length) ∧ t'.size ≤ t.size) (fun sv => szOf sv)
    case atStart => exact ⟨t, rfl, rfl, Nat.le_refl _⟩
    case round =>
      obtain ⟨t', rfl, HW, hle⟩ := hrel
      by_cases h0 : 0 < t'.size
      · have he : t'.toList.isEmpty = false := by rw [empty_iff]; exact decide_eq_false (by omega)
        cases hb : SS.bl (t'[0]'h0)
        · go_wp2_with (go_at_call 36; refine (blank_any _ _).mono ?_; rintro e w1 ⟨rfl, rfl⟩)
          go_loop [9] (fun iv => ∃ k : Nat, iv = .int .i64 k ∧ k ≤ t'.size ∧ Hid (∀ j (h : j < t'.size), j < k → r.length = m ∨ SS.bl (t'[j]'h) = false)) (fun iv => t'.size - (intOf iv).toNat)
          case atStart => exact ⟨0, rfl, Nat.zero_le _, fun j h h' => absurd h' (Nat.not_lt_zero _)⟩
          case round =>
            obtain ⟨k, rfl, hk, HK⟩ := hrel
            have hz := hown
            by_cases hkt : k < t'.size
            · by_cases hrm : r.length = m
              · have hrm' : ((r.length : Int) == (m : Int)) = true := by simp; omega
                have HR := Lib.hid hrm
                clear hrm
                go_wp2
                exact ⟨⟨k + 1, by go_num, by omega, fun j h h' => .inl HR.out⟩, by simp [intOf]; omega⟩
              · have hrm' : ((r.length : Int) == (m : Int)) = false := by simp; omega
                cases hbk : SS.bl (t'[k]'hkt)
                · go_wp2_with (go_at_call 36; refine (blank_any _ _).mono ?_; rintro e w1 ⟨rfl, rfl⟩)
                  refine ⟨⟨k + 1, by go_num, by omega, fun j h h' => ?_⟩, by simp [intOf]; omega⟩
                  by_cases e : j = k
                  · subst e; exact .inr hbk
                  · exact HK.out j h (by omega)
                · obtain ⟨hst, hk0⟩ := step t'.data.toList k m r.length h0 hb hk HK.out (.inr ⟨hkt, hrm, hbk⟩)
                  have HS := Lib.hid hst
                  clear hst
                  go_wp2_with (first | (go_at_call 36; refine (blank_any _ _).mono ?_; rintro e w1 ⟨rfl, rfl⟩) | (at_builtin; refine wpList_append_own _ rfl (.tmp 91) (.tmp 95) 22 rfl w.heap.size 9 i0 (.string ByteArray.empty) 1 16 Try.underlying22 hi0 hz0 hz1 hz2 rfl (by decide) _ r.length (strs r) rfl (hown.alloc _) ⟨_, 0, none⟩ 1 1 [.string (t'.extract 0 k)] rfl rfl (cell_one_new _ _ _) (by simp [Value.oneCell']) (by unfold maxLen; omega) (by omega) (by simp; omega) ?_; intro v1 w1 hown3 hg _))
                  have hown4 := strs_cut t' r 0 k ▸ hown3
                  refine ⟨⟨_, _, rfl, cut_eq HE.out HW.out HS.out, by rw [List.length_append, List.length_singleton, ByteArray.size_extract]; omega, by simpa using hown4, below_append hbw hbz hown (Nat.le_refl _) hg⟩, by simp only [szOf, ByteArray.size_extract]; omega⟩
            · obtain ⟨hst, hk0⟩ := step t'.data.toList k m r.length h0 hb hk HK.out (.inl (by rw [size_list]; omega))
              have HS := Lib.hid hst
              clear hst
              go_wp2_with (at_builtin; refine wpList_append_own _ rfl (.tmp 91) (.tmp 95) 22 rfl w.heap.size 9 i0 (.string ByteArray.empty) 1 16 Try.underlying22 hi0 hz0 hz1 hz2 rfl (by decide) _ r.length (strs r) rfl (hown.alloc _) ⟨_, 0, none⟩ 1 1 [.string (t'.extract 0 k)] rfl rfl (cell_one_new _ _ _) (by simp [Value.oneCell']) (by unfold maxLen; omega) (by omega) (by simp; omega) ?_; intro v1 w1 hown3 hg _)
              have hown4 := strs_cut t' r 0 k ▸ hown3
              refine ⟨⟨_, _, rfl, cut_eq HE.out HW.out HS.out, by rw [List.length_append, List.length_singleton, ByteArray.size_extract]; omega, by simpa using hown4, below_append hbw hbz hown (Nat.le_refl _) hg⟩, by simp only [szOf, ByteArray.size_extract]; omega⟩
        · go_wp2_with (go_at_call 36; refine (blank_any _ _).mono ?_; rintro e w1 ⟨rfl, rfl⟩)
          exact ⟨⟨_, rfl, HW.out.trans (words_tail m t' h0 hb _), by rw [ByteArray.size_extract]; omega⟩, by simp only [szOf, ByteArray.size_extract]; omega⟩
      · have he : t'.toList.isEmpty = true := by rw [empty_iff]; exact decide_eq_true (by omega)
        have hnil : t'.data.toList = [] := List.eq_nil_of_length_eq_zero (by rw [size_list]; omega)
        have HN := Lib.hid hnil
        clear hnil
        go_wp2
        go_ret
        refine ⟨_, r.length, rfl, ?_, hbw⟩
        rw [HE.out, HW.out, HN.out, SS.words_nil, List.append_nil]
        exact hown
set_option maxRecDepth 100000 in
theorem Words_any (s : ByteArray) (m : Nat) (hs : s.size ≤ 2147483647) (hm : m ≤ 255) (w : World) :
    Calls Try.prog 6 #[.string s, .bool false, .int .i64 (m : Int)] w (Texts w (SS.words m s.data.toList 0)) := by
  have hmI : (m : Int) ≤ 255 := by omega
  go_enter Try.func6, Try.ntmps6
  go_wp2_with (go_at_call 17; refine (words_any s m hs hm _).mono ?_; rintro e w1 ⟨v, n, rfl, h1, h2⟩)
  go_ret
  exact ⟨v, n, rfl, h1, h2⟩
theorem Zz_any (s : ByteArray) (m : Nat) (hs : s.size ≤ 2147483647) (hm : m ≤ 255) (ha : Ascii s) (w : World) :
    Calls Try.prog 18 #[.string s, .int .i64 (m : Int)] w (Texts w (SS.words m s.data.toList 0)) := by
  go_enter Try.func18, Try.ntmps18
  go_wp2_with (go_at_call 37; refine (split_any s m hs hm ha _).mono ?_; rintro e w1 ⟨v, n, rfl, h1, h2⟩)
  go_ret
  exact ⟨v, n, rfl, h1, h2⟩
theorem Split_any (s : ByteArray) (m : Nat) (hs : s.size ≤ 2147483647) (hm : m ≤ 255) (ha : Ascii s) (w : World) :
    Calls Try.prog 10 #[.string s, .int .i64 (m : Int)] w (Texts w (SS.words m s.data.toList 0)) := by
  go_enter Try.func10, Try.ntmps10
  go_wp2_with (go_at_call 18; refine (Zz_any s m hs hm ha _).mono ?_; rintro e w1 ⟨v, n, rfl, h1, h2⟩)
  go_ret
  exact ⟨v, n, rfl, h1, h2⟩
def okc (c : UInt8) : Bool := decide (c.toNat < 127) && (decide (32 ≤ c.toNat) || (decide (9 ≤ c.toNat) && decide (c.toNat ≤ 13)))
/-- what 'ascii' answers: true only of texts below 128 -/
def AsciiPost (s : ByteArray) (w : World) (e : Ending) (w' : World) : Prop := ∃ b : Bool, e = .returned (.bool b) ∧ (b = true → Ascii s) ∧ w = w'
set_option maxRecDepth 100000 in
theorem ascii_any (s : ByteArray) (hs : s.size ≤ 2147483647) (w : World) :
    Calls Try.prog 7 #[.string s] w (AsciiPost s w) := by
  go_enter Try.func7, Try.ntmps7
  go_wp2
  go_loop [3] (fun i => ∃ k : Nat, i = .int .i64 k ∧ k ≤ s.size ∧ Hid (∀ j (h : j < s.size), j < k → (s[j]'h).toNat < 128)) (fun i => s.size - (intOf i).toNat)
  case atStart => exact ⟨0, rfl, Nat.zero_le _, fun j h h' => absurd h' (Nat.not_lt_zero _)⟩
  case round =>
    obtain ⟨k, rfl, hk, HK⟩ := hrel
    by_cases hlt : k < s.size
    · have hx : ((s[k]'hlt).toNat : Int) < 256 := by have := (s[k]'hlt).toNat_lt; omega
      by_cases h1 : (127 : Int) ≤ ((s[k]'hlt).toNat : Int)
      · go_wp2
        go_ret
        exact ⟨false, rfl, (fun h => by cases h), rfl⟩
      · by_cases h2 : ((s[k]'hlt).toNat : Int) < 32
        · by_cases h3 : ((s[k]'hlt).toNat : Int) < 9
          · have h4 : (((s[k]'hlt).toNat : Int) != 32) = true := by rw [bne_iff_ne]; omega
            go_wp2
            go_ret
            exact ⟨false, rfl, (fun h => by cases h), rfl⟩
          · by_cases h5 : (13 : Int) < ((s[k]'hlt).toNat : Int)
            · have h4 : (((s[k]'hlt).toNat : Int) != 32) = true := by rw [bne_iff_ne]; omega
              go_wp2
              go_ret
              exact ⟨false, rfl, (fun h => by cases h), rfl⟩
            · have h4 : (((s[k]'hlt).toNat : Int) != 32) = true := by rw [bne_iff_ne]; omega
              go_wp2
              refine ⟨⟨k + 1, by go_num, by omega, fun j h h' => ?_⟩, by simp [intOf]; omega⟩
              by_cases e : j = k
              · subst e; omega
              · exact HK.out j h (by omega)
        · go_wp2
          refine ⟨⟨k + 1, by go_num, by omega, fun j h h' => ?_⟩, by simp [intOf]; omega⟩
          by_cases e : j = k
          · subst e; omega
          · exact HK.out j h (by omega)
    · go_wp2
      go_ret
      exact ⟨_, rfl, fun _ j h => HK.out j h (by omega), rfl⟩
def SomeBool (w : World) (e : Ending) (w' : World) : Prop := ∃ b : Bool, e = .returned (.bool b) ∧ w = w'
set_option maxRecDepth 100000 in
/-- 'spaceEnds' answers something, at the end's side -/
theorem ends_any (s : ByteArray) (hs : s.size ≤ 2147483647) (w : World) :
    Calls Try.prog 8 #[.string s, .bool true] w (SomeBool w) := by
  by_cases h0 : s.size = 0
  · have he : s.toList.isEmpty = true := by rw [empty_iff]; exact decide_eq_true h0
    go_enter Try.func8, Try.ntmps8
    go_wp2
    go_ret
    exact ⟨_, rfl, rfl⟩
  · have he : s.toList.isEmpty = false := by rw [empty_iff]; exact decide_eq_false h0
    have hp : 0 < s.size := by omega
    go_enter Try.func8, Try.ntmps8
    go_wp2
    all_goals
      go_ret
      exact ⟨_, rfl, rfl⟩
/-- a row of strings that reads as a list of texts -/
def Row (w : World) (v : Value) (L : List (List UInt8)) : Prop := ∃ B n, w.ownsRow B 9 1 v n (strs L)
theorem row_len {w : World} {B n : Nat} {v : Value} {L : List (List UInt8)} (h : w.ownsRow B 9 1 v n (strs L)) : n = L.length := by
  have := h.1; simp [strs] at this; omega
theorem strs_get (L : List (List UInt8)) (k : Nat) (h : k < L.length) : (strs L)[k]? = some (.string ⟨(L[k]'h).toArray⟩) := by simp [strs, h]
set_option maxRecDepth 100000 in
theorem same_any (va vb : Value) (L : List (List UInt8)) (hL : L.length ≤ 2147483648) (w : World) (h1 : Row w va L) (h2 : Row w vb L) :
    Calls Try.prog 9 #[va, vb] w fun e w' => e = .returned (.bool true) ∧ w = w' := by
  obtain ⟨B1, n1, o1⟩ := h1
  obtain ⟨B2, n2, o2⟩ := h2
  obtain rfl := row_len o1
  obtain rfl := row_len o2
  by_cases h0 : L = []
  · subst h0
    obtain ⟨A1, c1, rfl⟩ := slice_of o1
    obtain ⟨A2, c2, rfl⟩ := slice_of o2
    clear o1 o2
    go_enter Try.func9, Try.ntmps9
    go_wp2
    go_rounds 1
    go_ret
    exact ⟨rfl, rfl⟩
  · have hpos : 0 < L.length := List.length_pos_iff.2 h0
    obtain ⟨g1, k1, hv1⟩ : ∃ g k, va = .slice (some ⟨g, 0, none⟩) L.length k := by
      rcases o1.2 with ⟨_, h⟩ | ⟨g, cap, cur, h, _⟩
      · omega
      · exact ⟨g, cap, h⟩
    obtain ⟨g2, k2, hv2⟩ : ∃ g k, vb = .slice (some ⟨g, 0, none⟩) L.length k := by
      rcases o2.2 with ⟨_, h⟩ | ⟨g, cap, cur, h, _⟩
      · omega
      · exact ⟨g, cap, h⟩
    subst hv1 hv2
    have c1 : ∀ k (h : k < L.length), w.cell? ⟨g1, k, none⟩ = some (.string ⟨(L[k]'h).toArray⟩) := fun k h => (o1.cellAt k (by omega)).trans (strs_get L k h)
    have c2 : ∀ k (h : k < L.length), w.cell? ⟨g2, k, none⟩ = some (.string ⟨(L[k]'h).toArray⟩) := fun k h => (o2.cellAt k (by omega)).trans (strs_get L k h)
    have C1 := Lib.hid c1
    have C2 := Lib.hid c2
    clear c1 c2 o1 o2 h0
    go_enter Try.func9, Try.ntmps9
    go_wp2
    go_loop [14] (fun i => ∃ k : Nat, i = .int .i64 k ∧ k ≤ L.length) (fun i => L.length - (intOf i).toNat)
    case atStart => exact ⟨0, rfl, Nat.zero_le _⟩
    case round =>
      obtain ⟨k, rfl, hk⟩ := hrel
      by_cases hlt : k < L.length
      · have e1 := C1.out k hlt
        have e2 := C2.out k hlt
        go_wp2
        go_round
        case rel => exact ⟨k + 1, by go_num, by omega⟩
        case measure => simp [intOf]; omega
      · go_wp2
        go_ret
        exact ⟨rfl, rfl⟩
theorem Row.below {w w1 : World} {v : Value} {L : List (List UInt8)} {B n : Nat} (h : w.ownsRow B 9 1 v n (strs L)) (hb : Below w.heap.size w w1) : w1.ownsRow B 9 1 v n (strs L) := by
  obtain ⟨h1, h2⟩ := h
  refine ⟨h1, ?_⟩
  rcases h2 with h2 | ⟨g, cap, cur, h3, h4, h5, h6⟩
  · exact .inl h2
  · have hlt : g < w.heap.size := (Array.getElem?_eq_some_iff.1 h5).1
    exact .inr ⟨g, cap, cur, h3, h4, (hb.block g hlt).trans h5, h6⟩
theorem words_len (m : Nat) : ∀ (f : Nat) (l : List UInt8) (n : Nat), (SS.W m f l n).length ≤ l.length := by
  intro f
  induction f with
  | zero => intro l n; simp [SS.W]
  | succ f ih =>
    intro l n
    simp only [SS.W]
    have hl := SS.length_dropWhile_le SS.bl l
    split
    · simp
    · rename_i c t hd
      rw [hd] at hl
      simp only [List.length_cons] at hl
      split
      · simp; omega
      · have hc : SS.bl c = false := by
          have := List.head?_dropWhile_not SS.bl l
          rw [hd] at this
          simpa using this
        have h2 : ((c :: t).dropWhile (fun x => !SS.bl x)).length ≤ t.length := by
          rw [List.dropWhile_cons, if_pos (by simp [hc])]
          exact SS.length_dropWhile_le _ _
        have := ih ((c :: t).dropWhile (fun x => !SS.bl x)) (n + 1)
        simp only [List.length_cons]
        omega
theorem ab_ascii : Ascii ⟨#[97, 32, 98]⟩ := by
  intro j h
  have h3 : j < 3 := h
  have h4 : (ByteArray.mk #[97, 32, 98])[j]'h ∈ (ByteArray.mk #[97, 32, 98]).data.toList := by
    show (#[97, 32, 98] : Array UInt8)[j]'h ∈ _
    simp
  have h5 : ∀ x ∈ (ByteArray.mk #[97, 32, 98]).data.toList, x.toNat < 128 := by decide
  exact h5 _ h4
theorem ab_words : SS.words 1 (ByteArray.mk #[97, 32, 98]).data.toList 0 = [[97], [98]] := by decide +kernel
set_option maxRecDepth 100000 in
theorem law (s : ByteArray) (q : Nat) (hq : q ≤ 255) (hs : s.size ≤ 2147483647) (w : World) :
    Calls Try.prog 3 #[.string s, .int .u8 (q : Int)] w fun e w' => e = .returned (.bool true) ∧ Below w.heap.size w w' := by
  have hqI : (q : Int) ≤ 255 := by omega
  obtain ⟨m, hm, hmq⟩ : ∃ m : Nat, m ≤ 11 ∧ (q : Int) % 12 = (m : Int) := ⟨q % 12, by omega, by omega⟩
  have hm2 : (m : Int) ≤ 11 := by omega
  have e1 : (q : Int).tmod 12 = (m : Int) := by rw [Int.tmod_eq_emod_of_nonneg (by omega)]; exact hmq
  clear hqI
  go_enter Try.func3, Try.ntmps3
  go_wp2_with fail
  refine (Words_any s m hs (by omega) _).mono ?_
  rintro e w1 ⟨v1, n1, rfl, o1, b1⟩
  go_wp2_with fail
  refine (ascii_any s hs _).mono ?_
  rintro e w2 ⟨b, rfl, hb, rfl⟩
  cases b
  · go_wp2_with fail
    go_ret
    exact ⟨rfl, b1⟩
  · have ha : Ascii s := hb rfl
    clear hb
    obtain ⟨A1, c1, hv1⟩ := slice_of o1
    subst hv1
    go_wp2_with fail
    refine (ends_any s hs _).mono ?_
    rintro e w2 ⟨b, rfl, rfl⟩
    by_cases hgt : b = true ∧ (m : Int) < (n1 : Int)
    · obtain ⟨hb, hgt⟩ := hgt
      subst hb
      go_wp2_with fail
      go_ret
      exact ⟨rfl, b1⟩
    · have hcont : b = false ∨ (b = true ∧ (n1 : Int) ≤ (m : Int)) := by
        cases b
        · exact .inl rfl
        · exact .inr ⟨rfl, by have : ¬ (m : Int) < (n1 : Int) := fun h => hgt ⟨rfl, h⟩; omega⟩
      clear hgt
      rcases hcont with h | ⟨h, hle⟩
      all_goals
        subst h
        go_wp2_with fail
        refine (Split_any s m hs (by omega) ha _).mono ?_
        rintro e w2 ⟨v2, n2, rfl, o2, b2⟩
        go_wp2_with fail
        refine (same_any _ _ (SS.words m s.data.toList 0) (by have := words_len m (s.data.toList.length + 1) s.data.toList 0; have := size_list s; unfold SS.words; omega) _ ⟨_, _, o2⟩ ⟨_, _, Row.below o1 b2⟩).mono ?_
        rintro e w3 ⟨rfl, rfl⟩
        go_wp2_with fail
        refine (Split_any ⟨#[97, 32, 98]⟩ 1 (by decide) (by decide) ab_ascii _).mono ?_
        rintro e w3 ⟨v3, n3, rfl, o3, b3⟩
        have hn3 := row_len o3
        rw [ab_words] at hn3
        obtain ⟨A3, c3, hv3⟩ := slice_of o3
        subst hn3
        subst hv3
        clear o3
        go_wp2_with fail
        go_ret
        have s1 := b1.size
        have s2 := b2.size
        exact ⟨rfl, (b1.trans (b2.mono s1)).trans (b3.mono (by omega))⟩
set_option maxRecDepth 100000 in
theorem law_long (s : ByteArray) (q : Int) (hs : 2147483647 < s.size) (w : World) :
    Calls Try.prog 3 #[.string s, .int .u8 q] w fun e w' => e = .returned (.bool true) ∧ Below w.heap.size w w' := by
  go_enter Try.func3, Try.ntmps3
  go_wp2
  go_ret
  exact ⟨rfl, Below.refl _ _⟩
theorem walk (a0 : ByteArray) (a1 : Int) (w0 : a0.size ≤ maxLen) (w1 : (Lit.int .u8 a1).wf = true) (w : World) :
    Calls Try.prog 3 #[.string a0, .int .u8 a1] w fun e w' => e = .returned (.bool true) ∧ Below w.heap.size w w' := by
  have hb : 0 ≤ a1 ∧ a1 ≤ 255 := by simpa [Lit.wf, IntKind.min, IntKind.max, IntKind.signed, IntKind.bits] using w1
  by_cases hl : 2147483647 < a0.size
  · exact law_long a0 a1 hl w
  · obtain ⟨q, rfl⟩ := Int.eq_ofNat_of_zero_le hb.1
    exact law a0 q (by omega) (by omega) w
end Go.Proofs.Ytccbhddfngdlfaa.fnSplitSpace
