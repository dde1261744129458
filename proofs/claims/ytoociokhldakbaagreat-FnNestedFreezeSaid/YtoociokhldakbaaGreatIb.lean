/- The package's natural numbers out of bytes. -/
import Derived.Test.YtoociokhldakbaaGreatIa
namespace Go.Proofs.YtoociokhldakbaaGreat
open Go.ChangeShapes Go.WideShapes Go.ChangeAt Go.RowKit
set_option linter.unusedVariables false
set_option maxRecDepth 100000 in
theorem be32_any (b off n c : Nat) (d0 d1 d2 d3 : Nat) (h0 : d0 < 256) (h1 : d1 < 256) (h2 : d2 < 256) (h3 : d3 < 256) (hn : 4 ≤ n) (w : World)
    (c0 : w.cell? ⟨b, off, none⟩ = some (.int .u8 (d0 : Int))) (c1 : w.cell? ⟨b, off + 1, none⟩ = some (.int .u8 (d1 : Int))) (c2 : w.cell? ⟨b, off + 2, none⟩ = some (.int .u8 (d2 : Int))) (c3 : w.cell? ⟨b, off + 3, none⟩ = some (.int .u8 (d3 : Int))) :
    Calls Tryz.prog 60 #[.slice (some ⟨b, off, none⟩) n c] w fun e w' => e = .returned (.int .u32 ((d3 + 256 * d2 + 65536 * d1 + 16777216 * d0 : Nat) : Int)) ∧ ∃ k, w' = w.drewN k := by
  have e1 : (3 : Int) < (n : Int) := by omega
  have e2 : (2 : Int) < (n : Int) := by omega
  have e3 : (1 : Int) < (n : Int) := by omega
  have e4 : (0 : Int) < (n : Int) := by omega
  have i0 : (d0 : Int) < 256 := by omega
  have i1 : (d1 : Int) < 256 := by omega
  have i2 : (d2 : Int) < 256 := by omega
  have i3 : (d3 : Int) < 256 := by omega
  rw [← be32_eq d0 d1 d2 d3 h0 h1 h2 h3]
  clear h0 h1 h2 h3
  go_enter Tryz.func60, Tryz.ntmps60
  go_wp2
  go_quiet (fail)
  go_wp2
  go_ret
  exact ⟨rfl, _, rfl⟩
set_option maxRecDepth 100000 in
theorem be64_any (b off n c : Nat) (d : Nat → Nat) (h : ∀ i, d i < 256) (hn : 8 ≤ n) (hc : n ≤ c) (w : World)
    (hcell : ∀ i, i < 8 → w.cell? ⟨b, off + i, none⟩ = some (.int .u8 (d i : Int))) :
    Calls Tryz.prog 59 #[.slice (some ⟨b, off, none⟩) n c] w fun e w' => e = .returned (.int .u64 ((d 7 + 256 * d 6 + 65536 * d 5 + 16777216 * d 4 + 4294967296 * (d 3 + 256 * d 2 + 65536 * d 1 + 16777216 * d 0) : Nat) : Int)) ∧ ∃ k, w' = w.drewN k := by
  have e1 : (7 : Int) < (n : Int) := by omega
  have e2 : (4 : Int) ≤ (n : Int) := by omega
  have e3 : ¬ c = 4 := by omega
  have h7 := hcell 7 (by omega)
  obtain ⟨c0, c1, c2, c3⟩ : w.cell? ⟨b, off, none⟩ = some (.int .u8 (d 0 : Int)) ∧ w.cell? ⟨b, off + 1, none⟩ = some (.int .u8 (d 1 : Int)) ∧ w.cell? ⟨b, off + 2, none⟩ = some (.int .u8 (d 2 : Int)) ∧ w.cell? ⟨b, off + 3, none⟩ = some (.int .u8 (d 3 : Int)) :=
    ⟨hcell 0 (by omega), hcell 1 (by omega), hcell 2 (by omega), hcell 3 (by omega)⟩
  obtain ⟨c4, c5, c6, c7⟩ : w.cell? ⟨b, off + 4, none⟩ = some (.int .u8 (d 4 : Int)) ∧ w.cell? ⟨b, off + 4 + 1, none⟩ = some (.int .u8 (d 5 : Int)) ∧ w.cell? ⟨b, off + 4 + 2, none⟩ = some (.int .u8 (d 6 : Int)) ∧ w.cell? ⟨b, off + 4 + 3, none⟩ = some (.int .u8 (d 7 : Int)) :=
    ⟨hcell 4 (by omega), hcell 5 (by omega), hcell 6 (by omega), hcell 7 (by omega)⟩
  have q0 := be32_any b off n c (d 0) (d 1) (d 2) (d 3) (h _) (h _) (h _) (h _) (by omega)
  have q1 := be32_any b (off + 4) (n - 4) (c - 4) (d 4) (d 5) (d 6) (d 7) (h _) (h _) (h _) (h _) (by omega)
  have l0 : d 3 + 256 * d 2 + 65536 * d 1 + 16777216 * d 0 < 4294967296 := by have := h 0; have := h 1; have := h 2; have := h 3; omega
  have l1 : d 7 + 256 * d 6 + 65536 * d 5 + 16777216 * d 4 < 4294967296 := by have := h 4; have := h 5; have := h 6; have := h 7; omega
  rw [← be64_eq _ _ l0 l1]
  generalize d 3 + 256 * d 2 + 65536 * d 1 + 16777216 * d 0 = x at *
  generalize d 7 + 256 * d 6 + 65536 * d 5 + 16777216 * d 4 = y at *
  have k0 : (x : Int) < 4294967296 := by omega
  have k1 : (y : Int) < 4294967296 := by omega
  have Q0 := fun k => Lib.hid (Calls.quiet_of (q0 (w.drewN k) c0 c1 c2 c3))
  have Q1 := fun k => Lib.hid (Calls.quiet_of (q1 (w.drewN k) c4 c5 c6 c7))
  clear q0 q1 hcell l0 l1 h
  go_enter Tryz.func59, Tryz.ntmps59
  go_wp2
  go_quiet ((go_at_call 60; first | with_reducible exact (Q0 _).out | with_reducible exact (Q1 _).out))
  go_wp2
  go_ret
  exact ⟨rfl, _, rfl⟩
/-- the words' list is what N is in base 2^64, the lowest first, none of them a leading zero -/
def LW (ws : List Nat) (N : Nat) : Prop := Num.Can Num.B64 ws ∧ Num.le Num.B64 ws = N
/-- the address is in a block from B on, if there is one -/
def Fr (B : Nat) (A : Option Addr) : Prop := ∀ a, A = some a → B ≤ a.block ∧ a.off = 0 ∧ a.spot = none
/-- a natural number of the call's own -/
def RetNat (w : World) (N : Nat) (e : Ending) (w' : World) : Prop :=
  ∃ A c ws, e = .returned (.slice A ws.length c) ∧ Sl w' A c (w64 ws) ∧ Fr w.heap.size A ∧ LW ws N ∧ Kept w w'
/-- a row of n words of the call's own, all 0 (more behind it); none if n is 0 -/
def MakeP (w : World) (n : Nat) (e : Ending) (w' : World) : Prop :=
  (n = 0 ∧ e = .returned (.slice none 0 0) ∧ w' = w) ∨
  (0 < n ∧ ∃ cap, n ≤ cap ∧ cap ≤ n + 4 ∧ e = .returned (.slice (some ⟨w.heap.size, 0, none⟩) n cap) ∧ w'.rowIs w.heap.size 110 cap (fun _ => .int .u64 0) ∧ Kept w w')
theorem info_word : (Tryz.prog.info? 110).map (fun i => (i.zero, i.size, i.bytes)) = some (some (.int .u64 0), 1, 8) := by kernel_rfl
set_option maxRecDepth 100000 in
theorem make_nil (n : Nat) (hn : n ≤ 268435456) (w : World) : Calls Tryz.prog 48 #[.slice none 0 0, .int .i64 (n : Int)] w (MakeP w n) := by
  obtain ⟨i0, hi0, hz0, hz1, hz2⟩ := info_parts info_word
  by_cases h0 : n = 0
  · subst h0
    go_enter Tryz.func48, Tryz.ntmps48
    go_wp2
    go_ret
    exact .inl ⟨rfl, rfl, rfl⟩
  · by_cases h1 : n = 1
    · subst h1
      have hmk := fun W => run_make (P := Tryz.prog) W 92 110 i0 (.int .u64 0) Tryz.underlying92 hi0 hz0 .i64 .i64 (1 : Int) (1 : Int) (by omega) (by omega) (by rw [hz2]; omega) (by omega)
      rw [hz1] at hmk
      clear hi0 hz0 hz1 hz2
      go_enter Tryz.func48, Tryz.ntmps48
      go_wp2
      go_ret
      exact .inr ⟨by omega, 1, by omega, by omega, rfl, World.rowIs_made w (.int .u64 0) 1 _, (Below.refl _ w).alloc (Nat.le_refl _) _⟩
    · have e1 : ¬ (n : Int) ≤ 0 := by omega
      have e2 : ((n : Int) == 1) = false := by simp; omega
      have hmk := fun W => run_make (P := Tryz.prog) W 92 110 i0 (.int .u64 0) Tryz.underlying92 hi0 hz0 .i64 .i64 (n : Int) ((n : Int) + 4) (by omega) (by omega) (by rw [hz2]; omega) (by omega)
      have t1 : ((n : Int) + 4).toNat = n + 4 := by omega
      simp only [hz1, t1, Int.toNat_natCast, Nat.mul_one] at hmk
      clear hi0 hz0 hz1 hz2
      go_enter Tryz.func48, Tryz.ntmps48
      go_wp2
      go_ret
      exact .inr ⟨by omega, n + 4, by omega, by omega, rfl, World.rowIs_made w (.int .u64 0) (n + 4) _, (Below.refl _ w).alloc (Nat.le_refl _) _⟩
theorem map_add0 (A : Option Addr) : A.map (·.add 0) = A := by
  cases A with
  | none => rfl
  | some a => simp [Addr.add]
theorem run_to64 (A : Option Addr) (n c k : Nat) (hk : k ≤ c) (wx : World) :
    (Instr.slice 92 (.slice A n c) (some (.int .i64 0)) (some (.int .i64 (k : Int))) none).run Tryz.prog wx = .ok (.slice A k c) wx := by
  have h1 : (k : Int) ≤ (c : Int) := by omega
  have h2 : (0 : Int) ≤ (k : Int) := by omega
  by_cases hc : c = 0
  · subst hc
    obtain rfl : k = 0 := by omega
    simp [go_sem, Tryz.underlying92]
  · simp [go_sem, Tryz.underlying92, h1, h2]
def Norm (w : World) (A : Option Addr) (c : Nat) (L : List Nat) (e : Ending) (w' : World) : Prop := e = .returned (.slice A (Num.trim L).length c) ∧ w = w'
set_option maxRecDepth 100000 in
theorem norm_any (A : Option Addr) (c : Nat) (L : List Nat) (hl : L.length ≤ 2147483647) (w : World) (hs : Sl w A c (w64 L)) :
    Calls Tryz.prog 50 #[.slice A L.length c] w (Norm w A c L) := by
  have hcap := hs.cap
  rw [w64_len] at hcap
  go_enter Tryz.func50, Tryz.ntmps50
  go_wp2
  go_loop [3] (fun iv => ∃ k : Nat, iv = .int .i64 k ∧ k ≤ L.length ∧ Hid (∀ j (h : j < L.length), k ≤ j → L[j]'h = 0)) (fun iv => (intOf iv).toNat)
  case atStart => exact ⟨L.length, rfl, Nat.le_refl _, fun j h h' => absurd h (by omega)⟩
  case round =>
    obtain ⟨k, rfl, hk, HK⟩ := hrel
    have hsl := run_to64 A L.length c k (by omega)
    by_cases hlt : 0 < k
    · have hq : k - 1 < L.length := by omega
      obtain ⟨b, off, e, hc⟩ := hs.at_ (fun h => by have := congrArg List.length h; rw [w64_len] at this; simp at this; subst this; simp at hq)
      subst e
      have hck := hc (k - 1) _ (w64_get L (k - 1) hq)
      have HC := Lib.hid hc
      clear hc
      by_cases h0 : L[k - 1]'hq = 0
      · have h0' : (((L[k - 1]'hq : Nat) : Int) == 0) = true := by simp [h0]
        have H0 := Lib.hid h0
        clear h0
        go_wp2
        refine ⟨⟨k - 1, by congr 1; omega, by omega, fun j h h' => ?_⟩, by simp [intOf]; omega⟩
        by_cases e : j = k - 1
        · subst e; exact H0.out
        · exact HK.out j h (by omega)
      · have h0' : (((L[k - 1]'hq : Nat) : Int) == 0) = false := by simp; omega
        have hd := Num.trim_of L k hk HK.out (.inr ⟨hq, h0⟩)
        have hd2 : (Num.trim L).length = k := by rw [hd]; simp; omega
        have HD := Lib.hid hd2
        clear hd hd2 h0
        go_wp2
        go_ret
        exact ⟨by rw [HD.out]; rfl, rfl⟩
    · have hd := Num.trim_of L k hk HK.out (.inl (by omega))
      have hd2 : (Num.trim L).length = k := by rw [hd]; simp; omega
      have HD := Lib.hid hd2
      clear hd hd2
      go_wp2
      go_ret
      exact ⟨by rw [HD.out]; rfl, rfl⟩
theorem trim_take (L : List Nat) : Num.trim L = L.take (Num.trim L).length := by
  induction L with
  | nil => rfl
  | cons d t ih =>
    simp only [Num.trim]
    split
    · split
      · rfl
      · simp
    · rename_i e u h
      rw [h] at ih
      simp only [List.length_cons, List.take_succ_cons] at ih ⊢
      rw [← ih]
theorem Sl.trim {w : World} {A : Option Addr} {c : Nat} {L : List Nat} (h : Sl w A c (w64 L)) : Sl w A c (w64 (Num.trim L)) := by
  rw [trim_take L]
  have : w64 (L.take (Num.trim L).length) = (w64 L).take (Num.trim L).length := by simp [w64, List.map_take]
  rw [this]
  exact h.take _
/-- word j of the first k words, 0 behind them -/
def wd (m : List Nat) (k j : Nat) : Value := .int .u64 ((if j < k then Num.word m j else 0 : Nat) : Int)
/-- the first i - 8 .. bytes of the loop that takes eight at a time -/
def be64_of (m : List Nat) (k : Nat) : Nat :=
  m.getD (8 * k) 0 + 256 * m.getD (8 * k + 1) 0 + 65536 * m.getD (8 * k + 2) 0 + 16777216 * m.getD (8 * k + 3) 0
      + 4294967296 * (m.getD (8 * k + 4) 0 + 256 * m.getD (8 * k + 5) 0 + 65536 * m.getD (8 * k + 6) 0 + 16777216 * m.getD (8 * k + 7) 0)
theorem bigEndian_any (b off n c : Nat) (d : Nat → Nat) (h : ∀ i, d i < 256) (hn : 8 ≤ n) (hc : n ≤ c) (w : World)
    (hcell : ∀ i, i < 8 → w.cell? ⟨b, off + i, none⟩ = some (.int .u8 (d i : Int))) :
    Calls Tryz.prog 49 #[.slice (some ⟨b, off, none⟩) n c] w fun e w' => e = .returned (.int .u64 ((d 7 + 256 * d 6 + 65536 * d 5 + 16777216 * d 4 + 4294967296 * (d 3 + 256 * d 2 + 65536 * d 1 + 16777216 * d 0) : Nat) : Int)) ∧ ∃ k, w' = w.drewN k := by
  have hb := be64_any b off n c d h hn hc w hcell
  generalize (d 7 + 256 * d 6 + 65536 * d 5 + 16777216 * d 4 + 4294967296 * (d 3 + 256 * d 2 + 65536 * d 1 + 16777216 * d 0) : Nat) = x at *
  have HB := Lib.hid hb
  clear hb hcell h
  go_enter Tryz.func49, Tryz.ntmps49
  go_wp2_with (go_at_call 59; refine (HB.out).mono ?_; rintro e w' ⟨rfl, k, rfl⟩)
  go_ret
  exact ⟨rfl, _, rfl⟩
theorem Sl_of_row {w : World} {g cap : Nat} {T : TypeId} {f : Nat → Value} {xs : List Value} (h : w.rowIs g T cap f) (hx : ∀ j u, xs[j]? = some u → f j = u) (hl : xs.length ≤ cap) (hc : cap ≤ maxLen) : Sl w (some ⟨g, 0, none⟩) cap xs := by
  refine ⟨hl, hc, fun _ => ⟨g, 0, rfl, fun j u hu => ?_⟩⟩
  have hj : j < xs.length := (List.getElem?_eq_some_iff.1 hu).1
  rw [Nat.zero_add, h.cell (by omega), hx j u hu]
def words_of (m : List Nat) : List Nat := (List.range ((m.length + 7) / 8)).map (Num.word m)
theorem words_len (m : List Nat) : (words_of m).length = (m.length + 7) / 8 := by simp [words_of]
theorem row_words {w : World} {g cap k : Nat} {T : TypeId} {m : List Nat} (h : w.rowIs g T cap (wd m k)) (hk : (m.length + 7) / 8 ≤ k) (hc : (m.length + 7) / 8 ≤ cap) (hm : cap ≤ maxLen) : Sl w (some ⟨g, 0, none⟩) cap (w64 (words_of m)) := by
  refine Sl_of_row h (fun j u hu => ?_) (by rw [w64_len, words_len]; exact hc) hm
  have hj : j < (m.length + 7) / 8 := by
    have := (List.getElem?_eq_some_iff.1 hu).1
    rwa [w64_len, words_len] at this
  have e : (w64 (words_of m))[j]? = some (.int .u64 ((Num.word m j : Nat) : Int)) := by simp [w64, words_of, hj]
  rw [e] at hu
  injection hu with hu
  rw [← hu, wd, if_pos (by omega)]
theorem RetNat.of_row {w w' : World} {cap k : Nat} {m : List Nat} (hd : ∀ d ∈ m, d < 256) (h : w'.rowIs w.heap.size 110 cap (wd m k)) (hk : (m.length + 7) / 8 ≤ k) (hc : (m.length + 7) / 8 ≤ cap) (hm : cap ≤ maxLen) (hb : Kept w w') :
    RetNat w (Num.le 256 m) (.returned (.slice (some ⟨w.heap.size, 0, none⟩) (Num.trim (words_of m)).length cap)) w' := by
  refine ⟨_, _, Num.trim (words_of m), rfl, (row_words h hk hc hm).trim, ?_, ⟨Num.can_trim _ _ ?_, ?_⟩, hb⟩
  · rintro a h
    injection h with h
    subst h
    exact ⟨Nat.le_refl _, rfl, rfl⟩
  · intro d hd'
    simp only [words_of, List.mem_map] at hd'
    obtain ⟨j, _, rfl⟩ := hd'
    exact Num.word_lt m hd j
  · rw [Num.le_trim, words_of, ← Num.le_all m _ rfl]
theorem run_mid8 (b off n c lo : Nat) (h : lo + 8 ≤ n) (hc : n ≤ c) (wx : World) (i j : Int) (hi : i = (lo : Int)) (hj : j = (lo : Int) + 8) :
    (Instr.slice 29 (.slice (some ⟨b, off, none⟩) n c) (some (.int .i64 i)) (some (.int .i64 j)) none).run Tryz.prog wx = .ok (.slice (some ⟨b, off + lo, none⟩) 8 (c - lo)) wx := by
  subst hi hj
  have h1 : (0 : Int) ≤ (lo : Int) := by omega
  have h2 : (lo : Int) ≤ (lo : Int) + 8 := by omega
  have h3 : (lo : Int) + 8 ≤ (c : Int) := by omega
  have h4 : ¬ c = lo := by omega
  have h5 : ((lo : Int) + 8).toNat = lo + 8 := by omega
  simp [go_sem, Tryz.underlying29, h1, h2, h3, h4, h5]
theorem le_take_succ (m : List Nat) (t : Nat) (h : t < m.length) : Num.le 256 (m.take (t + 1)) = Num.le 256 (m.take t) + m.getD t 0 * 256 ^ t := by
  rw [List.take_succ_eq_append_getElem h, Num.le_append, List.length_take, Nat.min_eq_left (by omega)]
  simp [Num.le, h, Nat.mul_comm]
theorem le_take_lt (m : List Nat) (hd : ∀ d ∈ m, d < 256) (t : Nat) : Num.le 256 (m.take t) < 256 ^ t := by
  have h1 := Num.le_lt 256 (by omega) (m.take t) (fun d h => hd d (List.mem_of_mem_take h))
  have h2 : 256 ^ (m.take t).length ≤ 256 ^ t := Nat.pow_le_pow_right (by omega) (by simp; omega)
  omega
theorem word_be (l : List Nat) (k i : Nat) (h : i + 8 * k = l.length) (h8 : 8 ≤ i) :
    l.getD (i - 8 + 7) 0 + 256 * l.getD (i - 8 + 6) 0 + 65536 * l.getD (i - 8 + 5) 0 + 16777216 * l.getD (i - 8 + 4) 0 + 4294967296 * (l.getD (i - 8 + 3) 0 + 256 * l.getD (i - 8 + 2) 0 + 65536 * l.getD (i - 8 + 1) 0 + 16777216 * l.getD (i - 8 + 0) 0)
      = Num.word l.reverse k := by
  rw [Num.word_eq _ _ (by simp; omega)]
  have e : ∀ t, t < 8 → l.reverse.getD (8 * k + t) 0 = l.getD (i - 8 + (7 - t)) 0 := fun t ht => by
    rw [Num.rev_getD _ _ (by omega)]
    congr 1; omega
  have e0 := e 0 (by omega)
  rw [Nat.add_zero] at e0
  rw [e0, e 1 (by omega), e 2 (by omega), e 3 (by omega), e 4 (by omega), e 5 (by omega), e 6 (by omega), e 7 (by omega)]
theorem wd_set (m : List Nat) (k : Nat) : (fun j => if j = k then Value.int .u64 ((Num.word m k : Nat) : Int) else wd m k j) = wd m (k + 1) := by
  funext j
  by_cases h : j = k
  · subst h; simp [wd]
  · simp only [if_neg h, wd]
    by_cases h2 : j < k
    · rw [if_pos h2, if_pos (by omega)]
    · rw [if_neg h2, if_neg (by omega)]
theorem rowIs_drewN {w : World} {b : Nat} {t : TypeId} {n : Nat} {f : Nat → Value} (h : w.rowIs b t n f) (k : Nat) : (w.drewN k).rowIs b t n f := h
theorem or_step (x y t : Nat) (hx : x < 256 ^ t) (hy : y < 256) (ht : t ≤ 7) : bits .or .u64 (x : Int) ((y : Int) * ((256 ^ t : Nat) : Int)) = ((x + y * 256 ^ t : Nat) : Int) := by
  have h256 : (256 : Nat) ^ t = 2 ^ (8 * t) := by rw [Nat.pow_mul]
  have hp : 256 ^ t ≤ 256 ^ 7 := Nat.pow_le_pow_right (by omega) ht
  have h7 : (256 : Nat) ^ 7 = 72057594037927936 := by decide
  have hyt : y * 256 ^ t ≤ 255 * 72057594037927936 := Nat.mul_le_mul (by omega) (by omega)
  have c1 : (y : Int) * ((256 ^ t : Nat) : Int) = ((y * 256 ^ t : Nat) : Int) := by rw [Int.natCast_mul]
  rw [c1, u64_or_nat _ _ (by omega) (by omega), h256, or_shl x y (8 * t) (by rw [← h256]; exact hx)]
set_option maxRecDepth 100000 in
set_option maxHeartbeats 1000000 in
theorem setBytes_any (A : Option Addr) (c : Nat) (l : List Nat) (hl : l.length ≤ 268435456) (hd : ∀ d ∈ l, d < 256) (w : World) (hs : Sl w A c (by8 l)) :
    Calls Tryz.prog 39 #[.slice none 0 0, .slice A l.length c] w (RetNat w (Num.le 256 l.reverse)) := by
  have hcap := hs.cap
  rw [by8_len] at hcap
  have e1 : ((l.length : Int) + 8 - 1) / 8 = (((l.length + 7) / 8 : Nat) : Int) := by omega
  have hdm : ∀ d ∈ l.reverse, d < 256 := fun d h => hd d (by simpa using h)
  have E1 := Lib.hid e1
  clear e1
  go_enter Tryz.func39, Tryz.ntmps39
  go_wp2_with fail
  rw [E1.out]
  refine (make_nil _ (by omega) _).mono ?_
  rintro e w1 (⟨h0, rfl, rfl⟩ | ⟨h0, cap, hc1, hc2, rfl, hrow, hbw⟩)
  · have hn : l = [] := List.eq_nil_of_length_eq_zero (by omega)
    subst hn
    go_wp2_with fail
    refine wp_loop_rounds 1 ?_
    rw [rounds_succ]
    go_wp2_with (go_at_call 50; refine (norm_any none 0 [] (by simp) _ (Sl.nil _)).mono ?_; rintro e w2 ⟨rfl, rfl⟩)
    go_ret
    exact ⟨none, 0, [], rfl, Sl.nil _, (fun a h => by cases h), ⟨Num.Can.nil _, rfl⟩, Below.refl _ _⟩
  · have hml : l.reverse.length = l.length := by simp
    generalize hm : l.reverse = m at *
    have HM := Lib.hid hm
    have HML := Lib.hid hml
    clear hm hml
    obtain ⟨W, hW⟩ : ∃ W, (l.length + 7) / 8 = W := ⟨_, rfl⟩
    rw [hW] at h0 hc1 hc2 ⊢
    have HW := Lib.hid hW
    clear hW
    go_wp2_with fail
    have hcm : cap ≤ maxLen := by have := HW.out; simp only [maxLen]; omega
    have hWl : W ≤ 33554433 := by have := HW.out; omega
    go_loopw [5, 6] (fun iv kv wr => ∃ i k : Nat, iv = .int .i64 i ∧ kv = .int .i64 k ∧ Hid (i + 8 * k = l.length) ∧ i ≤ l.length ∧ k ≤ W ∧ wr.rowIs w.heap.size 110 cap (wd m k) ∧ Kept w wr) (fun iv _ _ => (intOf iv).toNat)
    case atStart =>
      refine ⟨l.length, 0, rfl, rfl, (show l.length + 8 * 0 = l.length by omega), Nat.le_refl _, Nat.zero_le _, hrow.congr (fun j _ => by simp [wd]), hbw⟩
    case round =>
      obtain ⟨i, k, rfl, rfl, HI, hil, hkW, hr, hbr⟩ := hrel
      have hbz := hbr.size
      by_cases h8 : 8 ≤ i
      · have hne : by8 l ≠ [] := by8_ne (by omega)
        obtain ⟨b, off, e, hc⟩ := hs.at_ hne
        subst e
        have h8I : (8 : Int) ≤ (i : Int) := by omega
        have hkc : k < cap := by have := HI.out; have := HW.out; omega
        have hkW2 : (k : Int) < (W : Int) := by have := HI.out; have := HW.out; omega
        have hcellk : wr.cell? ⟨w.heap.size, k, none⟩ = some (wd m k k) := hr.cell hkc
        have hfr := hr.frozen k
        have hsl := fun wx => run_mid8 b off l.length c (i - 8) (by omega) hcap wx ((i : Int) - 8) (i : Int) (by omega) (by omega)
        have hbe := bigEndian_any b (off + (i - 8)) 8 (c - (i - 8)) (fun j => l.getD (i - 8 + j) 0) (fun j => by
          simp only [List.getD_eq_getElem?_getD]
          rcases Nat.lt_or_ge (i - 8 + j) l.length with h | h
          · rw [List.getElem?_eq_getElem h]; exact hd _ (List.getElem_mem h)
          · rw [List.getElem?_eq_none h]; simp) (by omega) (by omega) wr (fun j hj => by
            have hlt : i - 8 + j < l.length := by omega
            have h1 := hc (i - 8 + j) _ (by8_get l _ hlt)
            rw [Nat.add_assoc, List.getD_eq_getElem?_getD, List.getElem?_eq_getElem hlt]
            exact (hbr.cell (p := ⟨b, off + (i - 8 + j), none⟩) (block_lt_of_cell h1)).trans h1)
        rw [word_be l k i HI.out h8, HM.out] at hbe
        have HB := Lib.hid hbe
        have HC := Lib.hid hc
        have HD := Lib.hid hd
        clear hbe hc hne hd
        go_wp2_with (go_at_call 49; refine (HB.out).mono ?_; rintro e w2 ⟨rfl, q, rfl⟩)
        have hr2 := (rowIs_drewN hr q).set k (.int .u64 ((Num.word m k : Nat) : Int))
        rw [wd_set] at hr2
        have hk8 : i - 8 + 8 * (k + 1) = l.length := by have := HI.out; omega
        refine ⟨⟨i - 8, k + 1, by congr 1; omega, rfl, hk8, by omega, by omega, hr2, ?_⟩, by simp [intOf]; omega⟩
        exact (below_drewN hbr q).setCell (Nat.le_refl _) _
      · have hi8 : (i : Int) < 8 := by omega
        by_cases hi0 : i = 0
        · subst hi0
          have hkw : (m.length + 7) / 8 ≤ k := by have := HML.out; have := HI.out; omega
          have hsl2 := row_words hr hkw (by have := HML.out; have := HW.out; omega) hcm
          have hlen : (words_of m).length = W := by rw [words_len]; have := HML.out; have := HW.out; omega
          have HN := Lib.hid (norm_any (some ⟨w.heap.size, 0, none⟩) cap (words_of m) (by rw [hlen]; omega) wr hsl2)
          rw [hlen] at HN
          clear hlen
          go_wp2_with (go_at_call 50; refine (HN.out).mono ?_; rintro e w2 ⟨rfl, rfl⟩)
          go_ret
          exact RetNat.of_row hdm hr hkw (by have := HML.out; have := HW.out; omega) hcm hbr
        · have hne : by8 l ≠ [] := by8_ne (by omega)
          obtain ⟨b, off, e, hc⟩ := hs.at_ hne
          subst e
          have hi1 : (0 : Int) < (i : Int) := by omega
          have HC := Lib.hid hc
          have HD := Lib.hid hd
          clear hc hne hd
          go_wp2
          go_loop [5, 7, 8] (fun iv dv sv => ∃ t : Nat, iv = .int .i64 ((i - t : Nat) : Int) ∧ dv = .int .u64 ((Num.le 256 ((m.drop (8 * k)).take t) : Nat) : Int) ∧ sv = .int .u64 ((8 * t : Nat) : Int) ∧ t ≤ i) (fun iv _ _ => (intOf iv).toNat)
          case atStart => exact ⟨0, by simp, by simp [Num.le], rfl, Nat.zero_le _⟩
          case round =>
            obtain ⟨t, rfl, rfl, rfl, hti⟩ := hrel
            by_cases ht : t < i
            · have hlt : i - t - 1 < l.length := by omega
              have hck : wr.cell? ⟨b, off + (i - t - 1), none⟩ = some (.int .u8 ((l.getD (i - t - 1) 0 : Nat) : Int)) := by
                have h1 := HC.out (i - t - 1) _ (by8_get l _ hlt)
                rw [List.getD_eq_getElem?_getD, List.getElem?_eq_getElem hlt]
                exact (hbr.cell (p := ⟨b, off + (i - t - 1), none⟩) (block_lt_of_cell h1)).trans h1
              have hy : l.getD (i - t - 1) 0 < 256 := by
                rw [List.getD_eq_getElem?_getD, List.getElem?_eq_getElem hlt]; exact HD.out _ (List.getElem_mem hlt)
              have hx := le_take_lt (m.drop (8 * k)) (fun d h => hdm d (List.mem_of_mem_drop h)) t
              have hstep := le_take_succ (m.drop (8 * k)) t (by rw [List.length_drop]; have := HML.out; have := HI.out; omega)
              have hget : (m.drop (8 * k)).getD t 0 = l.getD (i - t - 1) 0 := by
                rw [Num.getD_drop, ← HM.out, Num.rev_getD _ _ (by have := HI.out; omega)]
                congr 1; have := HI.out; omega
              rw [hget] at hstep
              have HS := Lib.hid hstep
              clear hstep hget
              generalize Num.le 256 ((m.drop (8 * k)).take t) = x at *
              generalize l.getD (i - t - 1) 0 = y at *
              have hyI : (y : Int) < 256 := by omega
              have ht7 : t = 0 ∨ t = 1 ∨ t = 2 ∨ t = 3 ∨ t = 4 ∨ t = 5 ∨ t = 6 := by omega
              rcases ht7 with rfl | rfl | rfl | rfl | rfl | rfl | rfl
              · have hck0 : wr.cell? ⟨b, off + (i - 1), none⟩ = some (.int .u8 ((y : Nat) : Int)) := hck
                obtain rfl : x = 0 := by simpa using hx
                go_wp2_with fail
                refine ⟨⟨1, by congr 1; omega, ?_, rfl, by omega⟩, by simp [intOf]; omega⟩
                rw [HS.out]
                have := or_step 0 y 0 (by simp) hy (by omega)
                simp only [Nat.pow_zero, Int.natCast_one, Int.mul_one, Int.natCast_zero] at this
                exact congrArg _ this
              · have hck0 : wr.cell? ⟨b, off + (i - 1 - 1), none⟩ = some (.int .u8 ((y : Nat) : Int)) := hck
                go_wp2_with fail
                refine ⟨⟨2, by congr 1; omega, ?_, rfl, by omega⟩, by simp [intOf]; omega⟩
                rw [HS.out]
                exact congrArg (Value.int IntKind.u64) (or_step x y 1 hx hy (by omega))
              · have hck0 : wr.cell? ⟨b, off + (i - 2 - 1), none⟩ = some (.int .u8 ((y : Nat) : Int)) := hck
                go_wp2_with fail
                refine ⟨⟨3, by congr 1; omega, ?_, rfl, by omega⟩, by simp [intOf]; omega⟩
                rw [HS.out]
                exact congrArg (Value.int IntKind.u64) (or_step x y 2 hx hy (by omega))
              · have hck0 : wr.cell? ⟨b, off + (i - 3 - 1), none⟩ = some (.int .u8 ((y : Nat) : Int)) := hck
                go_wp2_with fail
                refine ⟨⟨4, by congr 1; omega, ?_, rfl, by omega⟩, by simp [intOf]; omega⟩
                rw [HS.out]
                exact congrArg (Value.int IntKind.u64) (or_step x y 3 hx hy (by omega))
              · have hck0 : wr.cell? ⟨b, off + (i - 4 - 1), none⟩ = some (.int .u8 ((y : Nat) : Int)) := hck
                go_wp2_with fail
                refine ⟨⟨5, by congr 1; omega, ?_, rfl, by omega⟩, by simp [intOf]; omega⟩
                rw [HS.out]
                exact congrArg (Value.int IntKind.u64) (or_step x y 4 hx hy (by omega))
              · have hck0 : wr.cell? ⟨b, off + (i - 5 - 1), none⟩ = some (.int .u8 ((y : Nat) : Int)) := hck
                go_wp2_with fail
                refine ⟨⟨6, by congr 1; omega, ?_, rfl, by omega⟩, by simp [intOf]; omega⟩
                rw [HS.out]
                exact congrArg (Value.int IntKind.u64) (or_step x y 5 hx hy (by omega))
              · have hck0 : wr.cell? ⟨b, off + (i - 6 - 1), none⟩ = some (.int .u8 ((y : Nat) : Int)) := hck
                go_wp2_with fail
                refine ⟨⟨7, by congr 1; omega, ?_, rfl, by omega⟩, by simp [intOf]; omega⟩
                rw [HS.out]
                exact congrArg (Value.int IntKind.u64) (or_step x y 6 hx hy (by omega))
            · have hti2 : t = i := by omega
              subst hti2
              have hkW1 : k = W - 1 := by have := HI.out; have := HW.out; omega
              have hcW : wr.cell? ⟨w.heap.size, W - 1, none⟩ = some (wd m k (W - 1)) := hr.cell (by omega)
              have hfW := hr.frozen (W - 1)
              have hword : Num.le 256 ((m.drop (8 * k)).take t) = Num.word m k := by
                rw [Num.word_end m k (by have := HML.out; have := HI.out; omega), List.take_of_length_le (by rw [List.length_drop]; have := HML.out; have := HI.out; omega)]
              have hr2 := hr.set (W - 1) (.int .u64 ((Num.le 256 ((m.drop (8 * k)).take t) : Nat) : Int))
              rw [hword, ← hkW1, wd_set] at hr2
              have hkw : (m.length + 7) / 8 ≤ k + 1 := by have := HML.out; have := HI.out; omega
              have hsl2 := row_words hr2 hkw (by have := HML.out; have := HW.out; omega) hcm
              have hlen : (words_of m).length = W := by rw [words_len]; have := HML.out; have := HW.out; omega
              have hbr2 : Kept w (wr.setCell ⟨w.heap.size, k, none⟩ (.int .u64 ((Num.word m k : Nat) : Int))) := hbr.setCell (Nat.le_refl _) _
              have HN := Lib.hid (norm_any (some ⟨w.heap.size, 0, none⟩) cap (words_of m) (by rw [hlen]; omega) _ hsl2)
              rw [hlen] at HN
              rw [hword]
              have hti3 : ((t - t : Nat) : Int) = 0 := by omega
              rw [hti3]
              have HK := Lib.hid hkW1
              have hcW2 : wr.cell? ⟨w.heap.size, k, none⟩ = some (wd m k k) := hr.cell (by omega)
              have hfW2 := hr.frozen k
              have hW1 : (W : Int) - 1 = (k : Int) := by omega
              clear hlen hkW1 hword hti3
              go_wp2_with fail
              refine (HN.out).mono ?_
              rintro e w2 ⟨rfl, rfl⟩
              go_wp2_with fail
              go_ret
              exact RetNat.of_row hdm hr2 hkw (by have := HML.out; have := HW.out; omega) hcm hbr2
end Go.Proofs.YtoociokhldakbaaGreat
