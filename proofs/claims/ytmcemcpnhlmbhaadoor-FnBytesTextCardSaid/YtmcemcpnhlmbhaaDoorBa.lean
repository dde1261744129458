/- Plain: bytes as numbers, what a quoted text is read back as. -/
import Derived.Lib.QuoteLoop
import Derived.Laws.BytesArg
import Derived.Lib.DecodeN
import Derived.KernelRfl
import Derived.WalkKit
import Derived.ProofKit
namespace Go.Proofs.YtmcemcpnhlmbhaaDoor
open Go.ChangeShapes Go.WideShapes Go.ChangeAt Go.RowKit
set_option linter.unusedVariables false
open Go.Lib
/-- a string's bytes as numbers -/
def bz (s : ByteArray) : List Int := s.data.toList.map fun x => (x.toNat : Int)
theorem bz_len (s : ByteArray) : (bz s).length = s.size := by simp [bz]
theorem bz_get (s : ByteArray) (i : Nat) (h : i < s.size) : (bz s)[i]? = some (((s[i]'h).toNat : Nat) : Int) := by
  have h' : i < s.data.size := h
  simp only [bz, List.getElem?_map, Array.getElem?_toList]
  rw [Array.getElem?_eq_getElem h']
  rfl
theorem get_bang (s : ByteArray) (i : Nat) (h : i < s.size) : s.get! i = s[i]'h := by
  cases s with
  | mk d => exact getElem!_pos d i h
theorem bz_extract (s : ByteArray) (a b : Nat) : bz (s.extract a b) = ((bz s).take b).drop a := by
  unfold bz
  rw [ByteArray.data_extract, Array.toList_extract]
  simp [List.extract, List.map_take, List.map_drop, List.drop_take]
theorem bz_rest (s : ByteArray) (k : Nat) : bz (s.extract k s.size) = (bz s).drop k := by
  rw [bz_extract, List.take_of_length_le (by rw [bz_len]; exact Nat.le_refl _)]
theorem bz_inj {s t : ByteArray} (h : bz s = bz t) : s = t := by
  cases s with
  | mk a =>
    cases t with
    | mk b =>
      have : a.toList = b.toList := by
        have h2 : a.toList.map (fun x => (x.toNat : Int)) = b.toList.map (fun x => (x.toNat : Int)) := h
        exact (List.map_inj_right (fun x y hxy => UInt8.toNat_inj.1 (by omega))).1 h2
      congr 1
      exact Array.toList_inj.1 this
theorem bz_nums (l : List Int) (h : ∀ x ∈ l, 0 ≤ x ∧ x < 256) : bz (strOfNums l) = l := by
  unfold bz
  rw [strOfNums_data, List.map_map]
  conv => rhs; rw [← List.map_id l]
  refine List.map_congr_left (fun x hx => ?_)
  have := h x hx
  simp only [Function.comp, id]
  have e : (UInt8.ofNat x.toNat).toNat = x.toNat := by rw [UInt8.toNat_ofNat']; omega
  omega
theorem nums_bz (s : ByteArray) : strOfNums (bz s) = s := by
  refine bz_inj (bz_nums _ (fun x hx => ?_))
  simp only [bz, List.mem_map] at hx
  obtain ⟨y, _, rfl⟩ := hx
  have := UInt8.toNat_lt y
  omega
theorem bz_byte (s : ByteArray) : ∀ x ∈ bz s, 0 ≤ x ∧ x < 256 := fun x hx => by
  simp only [bz, List.mem_map] at hx
  obtain ⟨y, _, rfl⟩ := hx
  have := UInt8.toNat_lt y
  omega
theorem decodeN_enc (n b0 b1 b2 b3 : Nat) (h0 : b0 < 256) (h1 : b1 < 256) (h2 : b2 < 256) (h3 : b3 < 256) (hg : ¬ ((decodeN n b0 b1 b2 b3).2 = 1 ∧ (decodeN n b0 b1 b2 b3).1 = 65533)) :
    encodeRuneZ ((decodeN n b0 b1 b2 b3).1 : Int) = ([(b0 : Int), b1, b2, b3].take (decodeN n b0 b1 b2 b3).2) ∧ ((decodeN n b0 b1 b2 b3).2 = 1 ∧ b0 < 128 ∨ 128 ≤ (decodeN n b0 b1 b2 b3).1) := by
  unfold decodeN at hg ⊢
  split
  · rename_i h
    simp only [List.take_succ_cons, List.take_zero]
    exact ⟨by rw [encodeRuneZ_one (by omega) (by omega)], .inl ⟨trivial, h⟩⟩
  · rename_i hn
    rw [if_neg hn] at hg
    split
    · rename_i h
      rw [if_pos h] at hg
      split
      · simp only [List.take_succ_cons, List.take_zero]
        refine ⟨?_, .inr (by omega)⟩
        rw [encodeRuneZ_two (by omega) (by omega)]
        congr 1
        · omega
        · congr 1; omega
      · rename_i h'
        rw [if_neg h'] at hg
        simp at hg
    · rename_i hn2
      rw [if_neg hn2] at hg
      split
      · rename_i h
        rw [if_pos h] at hg
        split
        · simp only [List.take_succ_cons, List.take_zero]
          refine ⟨?_, .inr (by omega)⟩
          rw [encodeRuneZ_three (by omega)]
          congr 1
          · omega
          · congr 1
            · omega
            · congr 1; omega
        · rename_i h'
          rw [if_neg h'] at hg
          simp at hg
      · rename_i hn3
        rw [if_neg hn3] at hg
        split
        · rename_i h
          rw [if_pos h] at hg
          split
          · simp only [List.take_succ_cons, List.take_zero]
            refine ⟨?_, .inr (by omega)⟩
            rw [encodeRuneZ_four (by omega) (by omega)]
            congr 1
            · omega
            · congr 1
              · omega
              · congr 1
                · omega
                · congr 1; omega
          · rename_i h'
            rw [if_neg h'] at hg
            simp at hg
        · rename_i h'
          rw [if_neg h'] at hg
          simp at hg
theorem take_bz (s : ByteArray) (k : Nat) (hk : k ≤ s.size) (h4 : k ≤ 4) : (bz s).take k = [((s.get! 0).toNat : Int), ((s.get! (0 + 1)).toNat : Int), ((s.get! (0 + 2)).toNat : Int), ((s.get! (0 + 3)).toNat : Int)].take k := by
  apply List.ext_getElem?
  intro i
  rw [List.getElem?_take, List.getElem?_take]
  split
  · rename_i hi
    rw [bz_get s i (by omega), ← get_bang s i (by omega)]
    match i, hi with
    | 0, _ => rfl
    | 1, _ => rfl
    | 2, _ => rfl
    | 3, _ => rfl
    | i + 4, hi => omega
  · rfl
/-- what was decoded, encoded: the bytes that it was read from -/
theorem enc_dec (s : ByteArray) (h0 : 0 < s.size) (hg : ¬ ((Utf8.decode s 0).2 = 1 ∧ (Utf8.decode s 0).1 = 65533)) :
    encodeRuneZ ((Utf8.decode s 0).1 : Int) = (bz s).take (Utf8.decode s 0).2 ∧ ((Utf8.decode s 0).2 = 1 ∧ (s.get! 0).toNat < 128 ∨ 128 ≤ (Utf8.decode s 0).1) := by
  have hw := width_le s h0
  rw [decode_at] at hg hw ⊢
  have h := decodeN_enc (s.size - 0) (s.get! 0).toNat (s.get! (0 + 1)).toNat (s.get! (0 + 2)).toNat (s.get! (0 + 3)).toNat (UInt8.toNat_lt _) (UInt8.toNat_lt _) (UInt8.toNat_lt _) (UInt8.toNat_lt _) hg
  refine ⟨?_, h.2⟩
  rw [h.1]
  have h4 : (decodeN (s.size - 0) (s.get! 0).toNat (s.get! (0 + 1)).toNat (s.get! (0 + 2)).toNat (s.get! (0 + 3)).toNat).2 ≤ 4 := by
    unfold decodeN; repeat' split
    all_goals (simp only; omega)
  exact (take_bz s _ hw h4).symm
/-- a byte that a literal holds as it is -/
def plain (x : Int) : Prop := 0 ≤ x ∧ x < 256 ∧ x ≠ 34 ∧ x ≠ 10 ∧ x ≠ 13 ∧ x ≠ 92
/-- letters behind a backslash, and what they stand for -/
def escs : List (Int × Int) := [(110, 10), (114, 13), (116, 9), (97, 7), (98, 8), (102, 12), (118, 11), (34, 34), (92, 92)]
/-- what is left of the literal's inside; what has been read; all that is to be read -/
def RdSt (T : PrintTabs) (B o tot : List Int) : Prop := ∃ E f rest, B = E ++ quoteFrom T f rest ∧ (∀ x ∈ E, plain x) ∧ rest.size ≤ f ∧ o ++ (E ++ bz rest) = tot
def Chunk (T : PrintTabs) (B o tot : List Int) : Prop :=
  (∃ e B', B = e :: B' ∧ plain e ∧ RdSt T B' (o ++ [e]) tot) ∨
  (∃ c d B', B = 92 :: c :: B' ∧ (c, d) ∈ escs ∧ RdSt T B' (o ++ [d]) tot) ∨
  (∃ (a b : Nat) (B' : List Int), a < 16 ∧ b < 16 ∧ B = 92 :: 120 :: Lib.hexDigit a :: Lib.hexDigit b :: B' ∧ RdSt T B' (o ++ [((16 * a + b : Nat) : Int)]) tot) ∨
  (∃ (r : Nat) (B' : List Int), 128 ≤ r ∧ r < 65536 ∧ validRune r = true ∧ B = 92 :: 117 :: (hexDigits r 4 ++ B') ∧ RdSt T B' (o ++ encodeRuneZ r) tot) ∨
  (∃ (r : Nat) (B' : List Int), 65536 ≤ r ∧ r ≤ 1114111 ∧ B = 92 :: 85 :: (hexDigits r 8 ++ B') ∧ RdSt T B' (o ++ encodeRuneZ r) tot)
theorem enc_high {r : Int} (h : 128 ≤ r) : ∀ x ∈ encodeRuneZ r, plain x := by
  have hb := encodeRuneZ_byte r
  intro x hx
  have h2 := hb x hx
  have : 128 ≤ x := by
    by_cases c2 : r ≤ 2047
    · rw [encodeRuneZ_two h c2] at hx
      simp only [List.mem_cons, List.not_mem_nil, or_false] at hx
      omega
    · by_cases c3 : (2048 ≤ r ∧ r < 55296) ∨ (57343 < r ∧ r ≤ 65535)
      · rw [encodeRuneZ_three c3] at hx
        simp only [List.mem_cons, List.not_mem_nil, or_false] at hx
        omega
      · by_cases c4 : 65536 ≤ r ∧ r ≤ 1114111
        · rw [encodeRuneZ_four c4.1 c4.2] at hx
          simp only [List.mem_cons, List.not_mem_nil, or_false] at hx
          omega
        · rw [encodeRuneZ_bad (by omega)] at hx
          simp only [List.mem_cons, List.not_mem_nil, or_false] at hx
          omega
  unfold plain
  omega
theorem latin_iff (r : Int) (h0 : 0 ≤ r) (h : r < 128) (T : PrintTabs) : isPrintR T r = true ↔ 32 ≤ r ∧ r ≤ 126 := by
  unfold isPrintR
  rw [if_pos (by omega)]
  unfold isPrintLatin
  simp only [Bool.or_eq_true, Bool.and_eq_true, decide_eq_true_eq]
  omega
theorem next (T : PrintTabs) (B o tot : List Int) (h : RdSt T B o tot) (hB : B ≠ []) : Chunk T B o tot := by
  obtain ⟨E, f, rest, rfl, hE, hf, ht⟩ := h
  cases E with
  | cons e E =>
    refine .inl ⟨e, E ++ quoteFrom T f rest, rfl, hE e (List.mem_cons_self ..), E, f, rest, rfl, fun x hx => hE x (List.mem_cons_of_mem _ hx), hf, ?_⟩
    simpa using ht
  | nil =>
    rw [List.nil_append] at hB ht
    have h0 : 0 < rest.size := by
      apply Nat.pos_of_ne_zero
      intro h0
      rw [quoteFrom_end T f rest (by omega)] at hB
      exact hB rfl
    rw [List.nil_append, quoteFrom_step T f rest h0 hf]
    have hK1 := width_pos rest 0
    have hK2 := width_le rest h0
    obtain ⟨K, hK⟩ : ∃ K, K = (Utf8.decode rest 0).2 := ⟨_, rfl⟩
    obtain ⟨R, hR⟩ : ∃ R, R = (Utf8.decode rest 0).1 := ⟨_, rfl⟩
    have hst : ∀ X : List Int, bz rest = X ++ (bz rest).drop K → RdSt T (quoteFrom T (f - 1) (rest.extract K rest.size)) (o ++ X) tot := fun X hX => by
      refine ⟨[], f - 1, rest.extract K rest.size, rfl, (by intro x hx; cases hx), ?_, ?_⟩
      · rw [size_rest]; omega
      · rw [List.nil_append, bz_rest, List.append_assoc, ← hX]; exact ht
    have hcut : bz rest = (bz rest).take K ++ (bz rest).drop K := (List.take_append_drop K (bz rest)).symm
    rw [← hK]
    by_cases hbad : K = 1 ∧ R = 65533
    · obtain ⟨h1, h2⟩ := hbad
      have hq := quoteStep_bad T rest h0 (by omega) (by omega)
      rw [hq]
      have hx255 := UInt8.toNat_lt (rest[0]'h0)
      have e1 : (bz rest).take K = [(((rest[0]'h0).toNat : Nat) : Int)] := by
        rw [h1, take_bz rest 1 (by omega) (by omega)]
        simp only [List.take_succ_cons, List.take_zero]
        rw [get_bang rest 0 h0]
      refine .inr (.inr (.inl ⟨(rest[0]'h0).toNat / 16, (rest[0]'h0).toNat % 16, _, by omega, by omega, rfl, hst _ ?_⟩))
      have e2 : 16 * ((rest[0]'h0).toNat / 16) + (rest[0]'h0).toNat % 16 = (rest[0]'h0).toNat := by omega
      rw [e2, ← e1]
      exact hcut
    · have hg : ¬ ((Utf8.decode rest 0).2 = 1 ∧ (Utf8.decode rest 0).1 = 65533) := by rw [← hK, ← hR]; exact hbad
      rw [quoteStep_good T rest hg]
      obtain ⟨he, hlo⟩ := enc_dec rest h0 hg
      have hv := rune_valid rest
      rw [← hR] at he hlo hv ⊢
      rw [← hK] at he hlo
      have hv' := hv
      unfold Lib.validRune at hv'
      have hv' := of_decide_eq_true hv'
      rw [← he] at hcut
      have hone : (R : Int) ≤ 127 → encodeRuneZ (R : Int) = [(R : Int)] := fun h => encodeRuneZ_one (by omega) h
      unfold escRune
      by_cases a1 : (R : Int) = 34 ∨ (R : Int) = 92
      · rw [if_pos a1]
        have h1 := hone (by omega)
        rw [h1] at hcut
        refine .inr (.inl ⟨(R : Int), (R : Int), _, rfl, ?_, hst _ hcut⟩)
        rcases a1 with a1 | a1 <;> rw [a1] <;> decide
      · rw [if_neg a1]
        by_cases a2 : isPrintR T (R : Int) = true
        · rw [if_pos a2]
          have hpl : ∀ x ∈ encodeRuneZ (R : Int), plain x := by
            by_cases a3 : (R : Int) < 128
            · have := (latin_iff (R : Int) (by omega) a3 T).1 a2
              rw [hone (by omega)]
              intro x hx
              rw [List.mem_singleton] at hx
              subst hx
              unfold plain
              omega
            · exact enc_high (by omega)
          obtain ⟨e, E, hE⟩ : ∃ e E, encodeRuneZ (R : Int) = e :: E := by
            have := (encodeRuneZ_length (R : Int)).1
            cases hh : encodeRuneZ (R : Int) with
            | nil => rw [hh] at this; simp at this
            | cons e E => exact ⟨e, E, rfl⟩
          rw [hE] at hpl hcut ⊢
          obtain ⟨E0, f0, r0, g1, g2, g3, g4⟩ := hst _ hcut
          refine .inl ⟨e, E ++ quoteFrom T (f - 1) (rest.extract K rest.size), rfl, hpl e (List.mem_cons_self ..), E, f - 1, rest.extract K rest.size, rfl, fun x hx => hpl x (List.mem_cons_of_mem _ hx), ?_, ?_⟩
          · rw [size_rest]; omega
          · have e9 : o ++ [e] ++ (E ++ (bz rest).drop K) = o ++ (e :: E ++ (bz rest).drop K) := by simp
            rw [bz_rest, e9, ← hcut]
            exact ht
        · rw [if_neg a2]
          have hlet : ∀ c : Int, ∀ d : Int, (R : Int) = d → (d ≤ 127) → (c, d) ∈ escs → Chunk T ([92, c] ++ quoteFrom T (f - 1) (rest.extract K rest.size)) o tot := fun c d h1 h2 h3 => by
            refine .inr (.inl ⟨c, d, _, rfl, h3, hst _ ?_⟩)
            rw [← h1, ← hone (by omega)]
            exact hcut
          by_cases b7 : (R : Int) = 7
          · rw [if_pos b7]; exact hlet 97 7 b7 (by omega) (by decide)
          rw [if_neg b7]
          by_cases b8 : (R : Int) = 8
          · rw [if_pos b8]; exact hlet 98 8 b8 (by omega) (by decide)
          rw [if_neg b8]
          by_cases b12 : (R : Int) = 12
          · rw [if_pos b12]; exact hlet 102 12 b12 (by omega) (by decide)
          rw [if_neg b12]
          by_cases b10 : (R : Int) = 10
          · rw [if_pos b10]; exact hlet 110 10 b10 (by omega) (by decide)
          rw [if_neg b10]
          by_cases b13 : (R : Int) = 13
          · rw [if_pos b13]; exact hlet 114 13 b13 (by omega) (by decide)
          rw [if_neg b13]
          by_cases b9 : (R : Int) = 9
          · rw [if_pos b9]; exact hlet 116 9 b9 (by omega) (by decide)
          rw [if_neg b9]
          by_cases b11 : (R : Int) = 11
          · rw [if_pos b11]; exact hlet 118 11 b11 (by omega) (by decide)
          rw [if_neg b11]
          by_cases bx : (R : Int) < 32 ∨ (R : Int) = 127
          · rw [if_pos bx]
            refine .inr (.inr (.inl ⟨R / 16, R % 16, _, by omega, by omega, ?_, hst _ ?_⟩))
            · simp only [Int.toNat_natCast, List.cons_append, List.nil_append]
            · have e2 : 16 * (R / 16) + R % 16 = R := by omega
              rw [e2, ← hone (by omega)]
              exact hcut
          rw [if_neg bx]
          have hR128 : 128 ≤ R := by
            apply Classical.byContradiction
            intro hlt
            exact a2 ((latin_iff (R : Int) (by omega) (by omega) T).2 (by omega))
          rw [if_neg (by rw [hv]; decide)]
          by_cases c16 : (R : Int) < 65536
          · rw [if_pos c16]
            refine .inr (.inr (.inr (.inl ⟨R, _, hR128, by omega, hv, ?_, hst _ hcut⟩)))
            simp only [Int.toNat_natCast, List.cons_append]
          · rw [if_neg c16]
            refine .inr (.inr (.inr (.inr ⟨R, _, by omega, by omega, ?_, hst _ hcut⟩)))
            simp only [Int.toNat_natCast, List.cons_append]
theorem escRune_ne (T : PrintTabs) (r : Int) : escRune T r ≠ [] := by
  intro h1
  have h2 := (encodeRuneZ_length r).1
  unfold escRune at h1
  by_cases a1 : r = 34 ∨ r = 92
  · rw [if_pos a1] at h1; cases h1
  · rw [if_neg a1] at h1
    by_cases a2 : isPrintR T r = true
    · rw [if_pos a2] at h1; rw [h1] at h2; simp at h2
    · rw [if_neg a2] at h1
      repeat' split at h1
      all_goals cases h1
theorem rd_end (T : PrintTabs) (o tot : List Int) (h : RdSt T [] o tot) : o = tot := by
  obtain ⟨E, f, rest, hB, hE, hf, ht⟩ := h
  have hE0 : E = [] ∧ quoteFrom T f rest = [] := by
    have := hB.symm
    simpa using this
  have h0 : ¬ 0 < rest.size := fun h0 => by
    have hq := hE0.2
    rw [quoteFrom_step T f rest h0 hf] at hq
    have h1 : quoteStep T rest = [] := by simpa using (List.append_eq_nil_iff.1 hq).1
    unfold quoteStep at h1
    split at h1
    · cases h1
    · exact escRune_ne _ _ h1
  have hb : bz rest = [] := by
    apply List.eq_nil_of_length_eq_zero
    rw [bz_len]; omega
  rw [hE0.1, hb] at ht
  simpa using ht
end Go.Proofs.YtmcemcpnhlmbhaaDoor
