/- The reference's sums. -/
import Derived.Test.YtnheiigdgklbcaaSc
namespace Go.Proofs.Ytnheiigdgklbcaa
open Go.ChangeShapes Go.WideShapes Go.ChangeAt Go.RowKit
set_option linter.unusedVariables false
/-- a slice of the digits of N, in a block from B on -/
def RetMag (w : World) (N : Nat) (e : Ending) (w' : World) : Prop := ∃ A c l, e = .returned (.slice A l.length c) ∧ Sl w' A c (by8 l) ∧ BE l N ∧ Fz w.heap.size A ∧ Kept w w'
theorem RetMag.of_cut {w W w' : World} {L : List Nat} {S : Nat} {e : Ending} (h : Cut W L e w') (hd : ∀ d ∈ L, d < 256) (hS : Num.le 256 L.reverse = S) (hk : Kept w W) : RetMag w S e w' := by
  obtain ⟨A, c, rfl, ho, hb⟩ := h
  have hB := BE.of_drop L hd
  rw [hS] at hB
  refine ⟨A, c, L.dropWhile (· == 0), rfl, (Sl.of_own ho).1, hB, fun b off e => ?_, hk.trans hb⟩
  subst e
  exact Nat.le_trans hk.size (ho.lt b rfl).1
/-- the row when its i lowest digits are laid -/
def sd (S n i j : Nat) : Value := if n ≤ i + j then .int .u8 ((Num.dg 256 S (n - 1 - j) : Nat) : Int) else .int .u8 0
theorem sd_set (S n i : Nat) (hi : i < n) : (fun j => if j = n - 1 - i then Value.int .u8 ((Num.dg 256 S i : Nat) : Int) else sd S n i j) = sd S n (i + 1) := by
  funext j
  unfold sd
  by_cases h : j = n - 1 - i
  · subst h
    rw [if_pos rfl, if_pos (by omega)]
    congr 3
    omega
  · rw [if_neg h]
    by_cases h2 : n ≤ i + j
    · rw [if_pos h2, if_pos (by omega)]
    · rw [if_neg h2, if_neg (by omega)]
theorem sd_row {w : World} {g n : Nat} {S : Nat} {t : TypeId} (hr : w.rowIs g t n (sd S n n)) (hn : n ≤ maxLen) : Sl w (some ⟨g, 0, none⟩) n (by8 (Num.be S n)) := by
  refine Sl_of_row hr (fun j u hu => ?_) (by rw [by8_len, Num.be_len]; exact Nat.le_refl _) hn
  have hj : j < n := by
    have := (List.getElem?_eq_some_iff.1 hu).1
    rwa [by8_len, Num.be_len] at this
  have e := Num.be_get S n j hj
  simp only [by8, List.getElem?_map, e, Option.map_some] at hu
  injection hu with hu
  rw [← hu, sd, if_pos (by omega)]
theorem beN_lt2 (l : List Nat) (h : ∀ d ∈ l, d < 256) (n : Nat) (hn : l.length ≤ n) : beN l < 256 ^ n :=
  Nat.lt_of_lt_of_le (beN_lt l h) (Nat.pow_le_pow_right (by omega) hn)
set_option maxRecDepth 100000 in
set_option maxHeartbeats 1000000 in
theorem sum_any (A B : Option Addr) (c k : Nat) (l m : List Nat) (hl : l.length ≤ 1000000) (hm : m.length ≤ 1000000) (hdl : ∀ d ∈ l, d < 256) (hdm : ∀ d ∈ m, d < 256) (w : World) (hs : Sl w A c (by8 l)) (ht : Sl w B k (by8 m)) :
    Calls Try.prog 45 #[.slice A l.length c, .slice B m.length k] w (RetMag w (beN l + beN m)) := by
  have hmax : max (l.length : Int) (m.length : Int) = ((max l.length m.length : Nat) : Int) := by omega
  have hmax2 : (if (l.length : Int) ≤ (m.length : Int) then (m.length : Int) else (l.length : Int)) = ((max l.length m.length : Nat) : Int) := by split <;> omega
  have hmax3 : (if (m.length : Int) < (l.length : Int) then (l.length : Int) else (m.length : Int)) = ((max l.length m.length : Nat) : Int) := by split <;> omega
  have hmax4 : (if (l.length : Int) < (m.length : Int) then (m.length : Int) else (l.length : Int)) = ((max l.length m.length : Nat) : Int) := by split <;> omega
  have hXY : beN l + beN m < 256 ^ (max l.length m.length + 1) := by
    have h1 := beN_lt2 l hdl (max l.length m.length) (by omega)
    have h2 := beN_lt2 m hdm (max l.length m.length) (by omega)
    rw [Nat.pow_succ]
    omega
  have HD1 : Hid (∀ i W, i ≤ 2147483647 → Kept w W → Calls Try.prog 44 #[.slice A l.length c, .int .i64 (i : Nat)] W fun e w' => e = .returned (.int .i64 ((Num.dg 256 (beN l) i : Nat) : Int)) ∧ W = w') := Lib.hid fun i W hi hk => digit_any A c l hdl i hi W (hs.below hk)
  have HD2 : Hid (∀ i W, i ≤ 2147483647 → Kept w W → Calls Try.prog 44 #[.slice B m.length k, .int .i64 (i : Nat)] W fun e w' => e = .returned (.int .i64 ((Num.dg 256 (beN m) i : Nat) : Int)) ∧ W = w') := Lib.hid fun i W hi hk => digit_any B k m hdm i hi W (ht.below hk)
  have hN : max l.length m.length ≤ 1000000 := by omega
  clear hs ht hdl hdm
  generalize hNN : max l.length m.length = N at *
  have hmk := run_make_row' (P := Try.prog) 22 5 (.int .u8 0) 1 Try.underlying22 info8 rfl .i64 .i64 (N + 1) (by omega) (by omega) w
  have eN : ((N + 1 : Nat) : Int) = (N : Int) + 1 := by omega
  rw [eN] at hmk
  have hk0 := (Below.refl w.heap.size w).alloc (Nat.le_refl _) (.cells (madeCells #[Value.int .u8 0] (N + 1)) 5)
  have hr0 : (w.alloc (.cells (madeCells #[Value.int .u8 0] (N + 1)) 5)).rowIs w.heap.size 5 (N + 1) (sd (beN l + beN m) (N + 1) 0) :=
    (World.rowIs_made w (.int .u8 0) (N + 1) 5).congr (fun j hj => by unfold sd; rw [if_neg (by omega)])
  have HXY := Lib.hid hXY
  have HN := Lib.hid hNN
  clear eN hXY hNN
  generalize hX : beN l = X at *
  generalize hY : beN m = Y at *
  clear hX hY
  go_enter Try.func45, Try.ntmps45
  go_wp2_with fail
  go_loopw [7, 8] (fun cv iv wr => ∃ i : Nat, iv = .int .i64 i ∧ i ≤ N + 1 ∧ cv = .int .i64 ((Num.cy 256 X Y i : Nat) : Int) ∧ wr.rowIs w.heap.size 5 (N + 1) (sd (X + Y) (N + 1) i) ∧ Kept w wr) (fun _ iv _ => N + 1 - (intOf iv).toNat)
  case atStart => exact ⟨0, rfl, Nat.zero_le _, by rw [Num.cy_zero]; rfl, hr0, hk0⟩
  case round =>
    obtain ⟨i, rfl, hi, rfl, hr, hbr⟩ := hrel
    by_cases hlt : i < N + 1
    · have hst := Num.cy_step (show 0 < 256 by omega) X Y i
      have hc1 := Num.cy_le (show 0 < 256 by omega) X Y i
      have hx := Num.dg_lt (show 0 < 256 by omega) X i
      have hy := Num.dg_lt (show 0 < 256 by omega) Y i
      have hz := Num.dg_lt (show 0 < 256 by omega) (X + Y) i
      have HDx := Lib.hid (HD1.out i wr (by omega) hbr)
      have HDy := Lib.hid (HD2.out i wr (by omega) hbr)
      have hcl := hr.cell (i := N - i) (by omega)
      have hfr := hr.frozen (N - i)
      have hset := hr.set (N - i) (.int .u8 ((Num.dg 256 (X + Y) i : Nat) : Int))
      have hfun : (fun j => if j = N - i then Value.int .u8 ((Num.dg 256 (X + Y) i : Nat) : Int) else sd (X + Y) (N + 1) i j) = sd (X + Y) (N + 1) (i + 1) := sd_set (X + Y) (N + 1) i hlt
      rw [hfun] at hset
      have HSET := Lib.hid hset
      have hsub : (N : Int) - (i : Int) = ((N - i : Nat) : Int) := by omega
      have hsub0 : (0 : Int) ≤ ((N - i : Nat) : Int) := by omega
      have hsub1 : ((N - i : Nat) : Int) < (N : Int) + 1 := by omega
      have hilt : (i : Int) < (N : Int) + 1 := by omega
      clear hset hfun
      generalize sd (X + Y) (N + 1) i (N - i) = old at *
      generalize hcy : Num.cy 256 X Y i = cc at *
      generalize hcy2 : Num.cy 256 X Y (i + 1) = cc2 at *
      generalize Num.dg 256 X i = x at *
      generalize Num.dg 256 Y i = y at *
      generalize Num.dg 256 (X + Y) i = z at *
      have HC2 := Lib.hid hcy2
      have HST := Lib.hid hst
      have HZ := Lib.hid hz
      have hxI : (x : Int) < 256 := by omega
      have hyI : (y : Int) < 256 := by omega
      have hcI : (cc : Int) ≤ 1 := by omega
      clear hcy hcy2 hst hz
      go_wp2_with fail
      refine (HDx.out).mono ?_
      rintro e w1 ⟨rfl, rfl⟩
      go_wp2_with fail
      refine (HDy.out).mono ?_
      rintro e w1 ⟨rfl, rfl⟩
      go_wp2_with fail
      have e1 : ((x : Int) + y + cc) % 256 = (z : Int) := by have h1 := HST.out; have h2 := HZ.out; omega
      have e2 : ((x : Int) + y + cc) / 256 = (cc2 : Int) := by have h1 := HST.out; have h2 := HZ.out; omega
      rw [e1, e2]
      exact ⟨⟨i + 1, by go_num, by omega, by rw [HC2.out], HSET.out, hbr.setCell (Nat.le_refl _) _⟩, by simp [intOf]; omega⟩
    · obtain rfl : i = N + 1 := by omega
      have hn : ¬ ((N : Int) + 1 < (N : Int) + 1) := by omega
      have hSl := sd_row hr (by unfold maxLen; omega)
      have HC := Lib.hid (cut_any (some ⟨w.heap.size, 0, none⟩) (N + 1) (Num.be (X + Y) (N + 1)) (by rw [Num.be_len]; omega) wr hSl)
      rw [Num.be_len] at HC
      have eN : ((N + 1 : Nat) : Int) = (N : Int) + 1 := by omega
      clear hSl
      go_wp2_with fail
      refine (HC.out).mono ?_
      intro e w2 hcut
      have hR := RetMag.of_cut hcut (Num.be_lt _ _) (Num.be_le _ _ HXY.out) hbr
      obtain ⟨A2, c2, l2, rfl, q⟩ := hR
      have Q := Lib.hid q
      clear q hcut
      go_wp2_with fail
      go_ret
      exact ⟨A2, c2, l2, rfl, Q.out⟩
set_option maxRecDepth 100000 in
set_option maxHeartbeats 1000000 in
theorem less_any (A B : Option Addr) (c k : Nat) (l m : List Nat) (hl : l.length ≤ 1000000) (hm : m.length ≤ 1000000) (hdl : ∀ d ∈ l, d < 256) (hdm : ∀ d ∈ m, d < 256) (hle : beN m ≤ beN l) (w : World) (hs : Sl w A c (by8 l)) (ht : Sl w B k (by8 m)) :
    Calls Try.prog 46 #[.slice A l.length c, .slice B m.length k] w (RetMag w (beN l - beN m)) := by
  have hXY := beN_lt l hdl
  have HD1 : Hid (∀ i W, i ≤ 2147483647 → Kept w W → Calls Try.prog 44 #[.slice A l.length c, .int .i64 (i : Nat)] W fun e w' => e = .returned (.int .i64 ((Num.dg 256 (beN l) i : Nat) : Int)) ∧ W = w') := Lib.hid fun i W hi hk => digit_any A c l hdl i hi W (hs.below hk)
  have HD2 : Hid (∀ i W, i ≤ 2147483647 → Kept w W → Calls Try.prog 44 #[.slice B m.length k, .int .i64 (i : Nat)] W fun e w' => e = .returned (.int .i64 ((Num.dg 256 (beN m) i : Nat) : Int)) ∧ W = w') := Lib.hid fun i W hi hk => digit_any B k m hdm i hi W (ht.below hk)
  clear hs ht hdl hdm
  generalize l.length = N at *
  have hmk := run_make_row' (P := Try.prog) 22 5 (.int .u8 0) 1 Try.underlying22 info8 rfl .i64 .i64 N (by omega) (by omega) w
  have hk0 := (Below.refl w.heap.size w).alloc (Nat.le_refl _) (.cells (madeCells #[Value.int .u8 0] N) 5)
  generalize hX : beN l = X at *
  generalize hY : beN m = Y at *
  obtain ⟨D, hD⟩ : ∃ D, X = D + Y := ⟨X - Y, by omega⟩
  have hD2 : X - Y = D := by omega
  have hDlt : D < 256 ^ N := by omega
  rw [hD2]
  have hr0 : (w.alloc (.cells (madeCells #[Value.int .u8 0] N) 5)).rowIs w.heap.size 5 N (sd D N 0) :=
    (World.rowIs_made w (.int .u8 0) N 5).congr (fun j hj => by unfold sd; rw [if_neg (by omega)])
  have HXY := Lib.hid hDlt
  have HD := Lib.hid hD
  clear hXY hX hY hD hD2 hle hDlt
  go_enter Try.func46, Try.ntmps46
  go_wp2_with fail
  go_loopw [6, 7] (fun cv iv wr => ∃ i : Nat, iv = .int .i64 i ∧ i ≤ N ∧ cv = .int .i64 ((Num.cy 256 D Y i : Nat) : Int) ∧ wr.rowIs w.heap.size 5 N (sd D N i) ∧ Kept w wr) (fun _ iv _ => N - (intOf iv).toNat)
  case atStart => exact ⟨0, rfl, Nat.zero_le _, by rw [Num.cy_zero]; rfl, hr0, hk0⟩
  case round =>
    obtain ⟨i, rfl, hi, rfl, hr, hbr⟩ := hrel
    by_cases hlt : i < N
    · have hst := Num.cy_step (show 0 < 256 by omega) D Y i
      rw [← HD.out] at hst
      have hc1 := Num.cy_le (show 0 < 256 by omega) D Y i
      have hc2 := Num.cy_le (show 0 < 256 by omega) D Y (i + 1)
      have hx := Num.dg_lt (show 0 < 256 by omega) X i
      have hy := Num.dg_lt (show 0 < 256 by omega) Y i
      have hz := Num.dg_lt (show 0 < 256 by omega) D i
      have HDx := Lib.hid (HD1.out i wr (by omega) hbr)
      have HDy := Lib.hid (HD2.out i wr (by omega) hbr)
      have hcl := hr.cell (i := N - 1 - i) (by omega)
      have hfr := hr.frozen (N - 1 - i)
      have hset := hr.set (N - 1 - i) (.int .u8 ((Num.dg 256 D i : Nat) : Int))
      rw [sd_set D N i hlt] at hset
      have HSET := Lib.hid hset
      have hsub : (N : Int) - 1 - (i : Int) = ((N - 1 - i : Nat) : Int) := by omega
      have hsub0 : (0 : Int) ≤ ((N - 1 - i : Nat) : Int) := by omega
      have hsub1 : ((N - 1 - i : Nat) : Int) < (N : Int) := by omega
      have hilt : (i : Int) < (N : Int) := by omega
      clear hset
      generalize sd D N i (N - 1 - i) = old at *
      generalize hcy : Num.cy 256 D Y i = cc at *
      generalize hcy2 : Num.cy 256 D Y (i + 1) = cc2 at *
      generalize Num.dg 256 X i = x at *
      generalize Num.dg 256 Y i = y at *
      generalize Num.dg 256 D i = z at *
      generalize N - 1 - i = pos at *
      have HC2 := Lib.hid hcy2
      have HST := Lib.hid hst
      have HZ := Lib.hid hz
      have hxI : (x : Int) < 256 := by omega
      have hyI : (y : Int) < 256 := by omega
      have hcI : (cc : Int) ≤ 1 := by omega
      have hbr2 := hbr.setCell (p := ⟨w.heap.size, pos, none⟩) (Nat.le_refl _) (.int .u8 ((z : Nat) : Int))
      have hcase : (cc2 = 1 ∧ (x : Int) - y - cc < 0 ∧ (x : Int) - y - cc + 256 = z) ∨ (cc2 = 0 ∧ ¬ ((x : Int) - y - cc < 0) ∧ (x : Int) - y - cc = z) := by omega
      clear hcy hcy2 hst hz hc2
      rcases hcase with ⟨rfl, h2, h3⟩ | ⟨rfl, h2, h3⟩
      all_goals
        have H3 := Lib.hid h3
        clear h3
        go_wp2_with fail
        refine (HDx.out).mono ?_
        rintro e w1 ⟨rfl, rfl⟩
        go_wp2_with fail
        refine (HDy.out).mono ?_
        rintro e w1 ⟨rfl, rfl⟩
        go_wp2_with fail
        rw [H3.out]
        exact ⟨⟨i + 1, by go_num, by omega, by rw [HC2.out]; rfl, HSET.out, hbr2⟩, by simp [intOf]; omega⟩
    · obtain rfl : i = N := by omega
      have hSl := sd_row hr (by unfold maxLen; omega)
      have HC := Lib.hid (cut_any (some ⟨w.heap.size, 0, none⟩) i (Num.be D i) (by rw [Num.be_len]; omega) wr hSl)
      rw [Num.be_len] at HC
      clear hSl
      go_wp2_with fail
      refine (HC.out).mono ?_
      intro e w2 hcut
      have hR := RetMag.of_cut hcut (Num.be_lt _ _) (Num.be_le _ _ HXY.out) hbr
      obtain ⟨A2, c2, l2, rfl, q⟩ := hR
      have Q := Lib.hid q
      clear q hcut
      go_wp2_with fail
      go_ret
      exact ⟨A2, c2, l2, rfl, Q.out⟩
end Go.Proofs.Ytnheiigdgklbcaa
