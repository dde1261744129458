/- The reference's division bit by bit. -/
import Derived.Test.YtnheiigdgklbcaaSp
namespace Go.Proofs.Ytnheiigdgklbcaa
open Go.ChangeShapes Go.WideShapes Go.ChangeAt Go.RowKit
set_option linter.unusedVariables false
theorem pow_u8 (r : Nat) (hr : r < 8) : (2 : Int) ^ r % 256 = ((2 ^ r : Nat) : Int) := by
  have h : r = 0 ∨ r = 1 ∨ r = 2 ∨ r = 3 ∨ r = 4 ∨ r = 5 ∨ r = 6 ∨ r = 7 := by omega
  rcases h with rfl | rfl | rfl | rfl | rfl | rfl | rfl | rfl <;> rfl
/-- a quotient and what is left, as magnitudes of the call's own -/
def RetSplit (w : World) (Q R : Nat) (e : Ending) (w' : World) : Prop := ∃ A1 c1 l1 A2 c2 l2, e = .returned (.tuple #[.slice A1 (List.length l1) c1, .slice A2 (List.length l2) c2]) ∧ (Sl w' A1 c1 (by8 l1) ∧ BE l1 Q ∧ Fz w.heap.size A1) ∧ (Sl w' A2 c2 (by8 l2) ∧ BE l2 R ∧ Fz w.heap.size A2) ∧ Kept w w'
theorem qd_row {w : World} {g n Q : Nat} {t : TypeId} (hr : w.rowIs g t n (qd Q n)) (hn : n ≤ maxLen) : Sl w (some ⟨g, 0, none⟩) n (by8 (Num.be Q n)) := by
  refine Sl_of_row hr (fun j u hu => ?_) (by rw [by8_len, Num.be_len]; exact Nat.le_refl _) hn
  have hj : j < n := by
    have := (List.getElem?_eq_some_iff.1 hu).1
    rwa [by8_len, Num.be_len] at this
  have e := Num.be_get Q n j hj
  simp only [by8, List.getElem?_map, e, Option.map_some] at hu
  injection hu with hu
theorem one_sl (w : World) : Sl (w.alloc (.cells #[.int .u8 1] 5)) (some ⟨w.heap.size, 0, none⟩) 1 (by8 [1]) := by
  refine ⟨Nat.le_refl _, by unfold maxLen; omega, fun _ => ⟨_, _, rfl, fun j u hu => ?_⟩⟩
  rw [Nat.zero_add, cell_of_row _ _ j _ _ _ (heap_alloc_new w _)]
  rw [← hu]
  exact (List.getElem?_toArray ..)
theorem ord_ge {A B : Nat} (h : B ≤ A) : 0 ≤ ord A B := by unfold ord; split <;> (try split) <;> omega
set_option maxRecDepth 100000 in
set_option maxHeartbeats 4000000 in
theorem split_any (A B : Option Addr) (c k0 : Nat) (l m : List Nat) (X Y : Nat) (hl : BE l X) (hX : X < Num.Cap) (hm : BE m Y) (hY0 : 0 < Y) (hY : 2 * Y < Num.Cap) (w : World) (hs : Sl w A c (by8 l)) (ht : Sl w B k0 (by8 m)) :
    Calls Try.prog 62 #[.slice A l.length c, .slice B m.length k0] w (RetSplit w (X / Y) (X % Y)) := by
  have hlen := hl.len hX
  have hmlen := hm.len (by omega)
  have HBIT : Hid (∀ (q r : Nat) (W : World), r < 8 → q ≤ 100000 → Kept w W → Calls Try.prog 19 #[.slice A l.length c, .int .i64 (8 * (q : Int) + (r : Int))] W fun e w' => e = .returned (.int .i64 ((X / 2 ^ (8 * q + r) % 2 : Nat) : Int)) ∧ W = w') := Lib.hid fun q r W hr hq hk => by
    have h1 := digit_any A c l hl.lt q (by omega) W (hs.below hk)
    rw [hl.num] at h1
    have h2 := bitAt_any A c l.length q r _ hr (by omega) (Num.dg_lt (by omega) X q) W (Lib.hid h1)
    have h3 := bit_val X (8 * q + r)
    rw [show (8 * q + r) / 8 = q by omega, show (8 * q + r) % 8 = r by omega] at h3
    rwa [h3] at h2
  have HT := Lib.hid ht
  have HM := Lib.hid hm
  have hXn : X < 256 ^ l.length := by have := beN_lt l hl.lt; rwa [hl.num] at this
  have hmk := run_make_row' (P := Try.prog) 22 5 (.int .u8 0) 1 Try.underlying22 info8 rfl .i64 .i64 l.length (by omega) (by omega) w
  have h8n : X / 2 ^ (8 * l.length) = 0 := Nat.div_eq_of_lt (by rw [← pow8]; exact hXn)
  have hr0 : (w.alloc (.cells (madeCells #[Value.int .u8 0] l.length) 5)).rowIs w.heap.size 5 l.length (qd (qF X Y (8 * l.length)) l.length) :=
    (World.rowIs_made w (.int .u8 0) l.length 5).congr (fun j hj => by unfold qd qF; rw [h8n, Nat.zero_div, Nat.zero_mul]; simp [Num.dg])
  have hr1 := rowIs_kept hr0 (w' := (w.alloc (.cells (madeCells #[Value.int .u8 0] l.length) 5)).alloc (.cells #[] 5)) ((Below.refl _ _).alloc (Nat.le_refl _) _)
  have hk1 : Kept w ((w.alloc (.cells (madeCells #[Value.int .u8 0] l.length) 5)).alloc (.cells #[] 5)) := by go_grown
  have HX0 : Hid (BE [] (X / 2 ^ (8 * l.length) % Y)) := Lib.hid (by rw [h8n, Nat.zero_mod]; exact BE.zero)
  have HXn := Lib.hid hXn
  have HQF : Hid (X / Y < 256 ^ l.length) := Lib.hid (Nat.lt_of_le_of_lt (Nat.div_le_self _ _) hXn)
  have HY := Lib.hid hY
  have HY0 := Lib.hid hY0
  clear hs ht hl hm hXn h8n hr0 hX hY
  generalize l.length = n at *
  go_enter Try.func62, Try.ntmps62
  go_wp2_with fail
  generalize (w.alloc (.cells (madeCells #[Value.int .u8 0] n) 5)).alloc (.cells #[] 5) = W0 at *
  go_loopw [7, 8] (fun lv iv wr => ∃ (k : Nat) (A2 : Option Addr) (c2 : Nat) (ll : List Nat), iv = .int .i64 ((k : Int) - 1) ∧ k ≤ 8 * n ∧ lv = .slice A2 (List.length ll) c2 ∧ Hid (Sl wr A2 c2 (by8 ll) ∧ BE ll (X / 2 ^ k % Y) ∧ Fz w.heap.size A2) ∧ wr.rowIs w.heap.size 5 n (qd (qF X Y k) n) ∧ Kept w wr) (fun _ iv _ => (intOf iv + 1).toNat)
  case atStart => exact ⟨8 * n, _, 0, [], by congr 1, Nat.le_refl _, rfl, ⟨Sl.empty _ _ _ (by unfold maxLen; omega), HX0.out, fun b off e => by injection e with e; injection e with e; omega⟩, hr1, hk1⟩
  case round =>
    obtain ⟨k, A2, c2, ll, rfl, hk, rfl, HL, hr, hbr⟩ := hrel
    rcases k with _ | i
    · go_wp2_with fail
      have hSl := qd_row hr (by unfold maxLen; omega)
      have HC := Lib.hid (cut_any (some ⟨w.heap.size, 0, none⟩) n (Num.be (qF X Y 0) n) (by rw [Num.be_len]; omega) wr hSl)
      rw [Num.be_len] at HC
      have hq0 : qF X Y 0 = X / Y := by unfold qF; simp
      rw [hq0] at HC
      have hx0 : X / 2 ^ 0 % Y = X % Y := by simp
      rw [hx0] at HL
      clear hSl hq0 hx0
      refine (HC.out).mono ?_
      intro e w2 hcut
      obtain ⟨A3, c3, l3, rfl, q⟩ := RetMag.of_cut hcut (Num.be_lt _ _) (Num.be_le _ _ HQF.out) hbr
      have Q := Lib.hid q
      have HL2 : Hid (Sl w2 A2 c2 (by8 ll) ∧ BE ll (X % Y) ∧ Fz w.heap.size A2) := by
        obtain ⟨_, _, _, _, hkw⟩ := hcut
        exact ⟨HL.out.1.below hkw, HL.out.2⟩
      clear q hcut
      go_wp2_with fail
      go_ret2
      exact ⟨A3, c3, l3, A2, c2, ll, rfl, ⟨Q.out.1, Q.out.2.1, Q.out.2.2.1⟩, HL2.out, Q.out.2.2.2⟩
    · obtain ⟨q, r, hr8, rfl⟩ : ∃ q r, r < 8 ∧ i = 8 * q + r := ⟨i / 8, i % 8, by omega, by omega⟩
      have e1 : (((8 * q + r + 1 : Nat) : Int) - 1) = 8 * (q : Int) + (r : Int) := by omega
      rw [e1]
      have hqn : q < n := by omega
      have hst := split_step X Y (8 * q + r) HY0.out
      have hLY := Nat.mod_lt (X / 2 ^ (8 * q + r + 1)) HY0.out
      have hLlen := HL.out.2.1.len (by have := HY.out; omega)
      have HSUM := Lib.hid (sum_any A2 A2 c2 c2 ll ll (by omega) (by omega) HL.out.2.1.lt HL.out.2.1.lt wr HL.out.1 HL.out.1)
      rw [HL.out.2.1.num] at HSUM
      have hnn : (0 : Int) ≤ 8 * (q : Int) + (r : Int) := by omega
      have HST := Lib.hid hst
      have HLY := Lib.hid hLY
      have HR8 := Lib.hid hr8
      clear hst hLY e1 HL
      go_wp2_with fail
      refine (HSUM.out).mono ?_
      rintro e w3 ⟨A3, c3, l3, rfl, q1, q2, q3, hk3⟩
      have hk3w : Kept w w3 := hbr.trans hk3
      have HQ3 : Hid (Sl w3 A3 c3 (by8 l3) ∧ BE l3 (X / 2 ^ (8 * q + r + 1) % Y + X / 2 ^ (8 * q + r + 1) % Y) ∧ Fz w.heap.size A3) := Lib.hid ⟨q1, q2, q3.mono hbr.size⟩
      have hr3 := rowIs_kept hr hk3
      have HB := Lib.hid (HBIT.out q r w3 hr8 (by omega) hk3w)
      clear q1 q2 q3 hk3 HSUM hr
      go_wp2_with fail
      refine (HB.out).mono ?_
      rintro e w4 ⟨rfl, rfl⟩
      have hb2 := Nat.mod_lt (X / 2 ^ (8 * q + r)) (show 0 < 2 by omega)
      generalize hL : X / 2 ^ (8 * q + r + 1) % Y = L at *
      generalize hb : X / 2 ^ (8 * q + r) % 2 = b at *
      clear hL hb HB
      have hb01 : b = 0 ∨ b = 1 := by omega
      rcases hb01 with rfl | rfl
      · have HQ4 : Hid (Sl w3 A3 c3 (by8 l3) ∧ BE l3 (2 * L + 0) ∧ Fz w.heap.size A3) := Lib.hid ⟨HQ3.out.1, by have := HQ3.out.2.1; rwa [show L + L = 2 * L + 0 by omega] at this, HQ3.out.2.2⟩
        clear HQ3 hb2
        go_wp2_with fail
        obtain ⟨A4, rfl⟩ : ∃ A : Option Addr, A = A3 := ⟨_, rfl⟩
        obtain ⟨c4, rfl⟩ : ∃ c : Nat, c = c3 := ⟨_, rfl⟩
        obtain ⟨l4, rfl⟩ : ∃ l : List Nat, l = l3 := ⟨_, rfl⟩
        obtain ⟨w4, rfl⟩ : ∃ w : World, w = w3 := ⟨_, rfl⟩
        have hr4 := hr3
        have hk4w := hk3w
        clear hr3 hk3w
        have hstV := HST.out
        by_cases hlt : 2 * L + 0 < Y
        · obtain ⟨hs1, hs2⟩ := hstV.1 hlt
          have HS1 := Lib.hid hs1
          have HS2 := Lib.hid hs2
          have HO := Lib.hid (order_any A4 B c4 k0 l4 m _ _ HQ4.out.2.1 HM.out w4 HQ4.out.1 (HT.out.below hk4w))
          rw [ord_lt hlt] at HO
          clear hstV hs1 hs2 hlt
          refine (HO.out).mono ?_
          rintro e w5 ⟨rfl, hk5⟩
          have hr5 := rowIs_kept hr4 hk5
          have hSl5 := HQ4.out.1.below hk5
          have HSl5 := Lib.hid hSl5
          clear hSl5
          go_wp2_with fail
          refine ⟨⟨8 * q + r, A4, c4, l4, by congr 1, by omega, rfl, ⟨HSl5.out, by rw [HS1.out]; exact HQ4.out.2.1, HQ4.out.2.2⟩, by rw [HS2.out]; exact hr5, hk4w.trans hk5⟩, by simp [intOf]; omega⟩
        · obtain ⟨hs1, hs2⟩ := hstV.2 (by omega)
          have HS1 := Lib.hid hs1
          have HS2 := Lib.hid hs2
          have hog := ord_ge (show Y ≤ 2 * L + 0 by omega)
          have HO := Lib.hid (order_any A4 B c4 k0 l4 m _ _ HQ4.out.2.1 HM.out w4 HQ4.out.1 (HT.out.below hk4w))
          have hVY : Y ≤ 2 * L + 0 := by omega
          have hll := HQ4.out.2.1.len (by have := HY.out; have := HLY.out; omega)
          have HLS : Hid (∀ W, Kept w4 W → Calls Try.prog 46 #[.slice A4 l4.length c4, .slice B m.length k0] W (RetMag W (2 * L + 0 - Y))) := Lib.hid fun W hW => by
            have := less_any A4 B c4 k0 l4 m (by omega) (by omega) HQ4.out.2.1.lt HM.out.lt (by rw [HQ4.out.2.1.num, HM.out.num]; exact hVY) W (HQ4.out.1.below hW) (HT.out.below (hk4w.trans hW))
            rwa [HQ4.out.2.1.num, HM.out.num] at this
          generalize ord (2 * L + 0) Y = o at *
          clear hstV hs1 hs2 hlt hVY hll
          refine (HO.out).mono ?_
          rintro e w5 ⟨rfl, hk5⟩
          have hr5 := rowIs_kept hr4 hk5
          have hk5w := hk4w.trans hk5
          have HL5 := Lib.hid (HLS.out w5 hk5)
          clear HO HLS hr4 hk5
          go_wp2_with fail
          refine (HL5.out).mono ?_
          rintro e w6 ⟨A6, c6, l6, rfl, q1, q2, q3, hk6⟩
          have hr6 := rowIs_kept hr5 hk6
          have hk6w := hk5w.trans hk6
          have HQ6 : Hid (Sl w6 A6 c6 (by8 l6) ∧ BE l6 (X / 2 ^ (8 * q + r) % Y) ∧ Fz w.heap.size A6) := Lib.hid ⟨q1, by rw [HS1.out]; exact q2, q3.mono hk5w.size⟩
          obtain ⟨t, ht1, ht2⟩ := dg_at (X / 2 ^ (8 * q + r + 1) / Y) q r HR8.out
          have hqs := qd_set (X / 2 ^ (8 * q + r + 1) / Y) n q r HR8.out hqn
          have hdl := Num.dg_lt (show 0 < 256 by omega) (X / 2 ^ (8 * q + r + 1) / Y * 2 ^ (8 * q + r + 1) + 2 ^ (8 * q + r)) q
          have hQF : qF X Y (8 * q + r) = X / 2 ^ (8 * q + r + 1) / Y * 2 ^ (8 * q + r + 1) + 2 ^ (8 * q + r) := HS2.out
          rw [ht2] at hdl hqs
          rw [← hQF] at hqs
          have hor := or_bit _ t r HR8.out ht1 (by rw [ht1]; exact hdl)
          have hcl := hr6.cell (i := n - 1 - q) (by omega)
          have hfr := hr6.frozen (n - 1 - q)
          have hset := hr6.set (n - 1 - q) (.int .u8 ((t * 2 ^ (r + 1) + 2 ^ r : Nat) : Int))
          have hset2 := hset.congr hqs
          have hcl2 : w6.cell? ⟨w.heap.size, n - 1 - q, none⟩ = some (.int .u8 ((t * 2 ^ (r + 1) : Nat) : Int)) := by
            rw [hcl, ← ht1]
            unfold qd qF
            congr 4
            omega
          rw [ht1] at hor
          have hbr6 := hk6w.setCell (p := ⟨w.heap.size, n - 1 - q, none⟩) (Nat.le_refl _) (.int .u8 ((t * 2 ^ (r + 1) + 2 ^ r : Nat) : Int))
          have hfin6 : Sl (w6.setCell ⟨w.heap.size, n - 1 - q, none⟩ (.int .u8 ((t * 2 ^ (r + 1) + 2 ^ r : Nat) : Int))) A6 c6 (by8 l6) := q1.setFar (fun b off e => by
            have h1 := q3 b off e
            have h2 := hr5
            obtain ⟨cur, h3, _⟩ := h2
            have h4 := block_lt h3
            omega) _
          have HSET := Lib.hid hset2
          have HFIN := Lib.hid hfin6
          have HOR := Lib.hid hor
          have HBR6 := Lib.hid hbr6
          have hd8 : (8 * (q : Int) + (r : Int)) / 8 = (q : Int) := (cast8 q r HR8.out).2.1
          have hm8 : (8 * (q : Int) + (r : Int)) % 8 = (r : Int) := (cast8 q r HR8.out).2.2
          have hr8I : (r : Int) < 8 := by have := HR8.out; omega
          have hwr : IntKind.u64.wrap (r : Int) = (r : Int) := by rw [IntKind.wrap_u64]; omega
          have hsub : (n : Int) - 1 - (q : Int) = ((n - 1 - q : Nat) : Int) := by omega
          have hsub0 : (0 : Int) ≤ ((n - 1 - q : Nat) : Int) := by omega
          have hsub1 : ((n - 1 - q : Nat) : Int) < (n : Int) := by omega
          clear q1 q2 q3 hk6 hr5 hr6 hk5w hqs hdl hQF hor hcl hset hset2 hbr6 hfin6 ht1 ht2 HL5
          generalize n - 1 - q = pos at *
          generalize t * 2 ^ (r + 1) = d at *
          go_wp2_with fail
          rw [pow_u8 r HR8.out, HOR.out]
          exact ⟨⟨8 * q + r, A6, c6, l6, by congr 1, by omega, rfl, ⟨HFIN.out, HQ6.out.2.1, HQ6.out.2.2⟩, HSET.out, HBR6.out⟩, by simp [intOf]; omega⟩
      · have hl3len := HQ3.out.2.1.len (by have := HY.out; have := HLY.out; omega)
        have kk : Kept w3 (w3.alloc (.cells #[.int .u8 1] 5)) := by go_grown
        have HS4 := Lib.hid (sum_any A3 (some ⟨w3.heap.size, 0, none⟩) c3 1 l3 [1] (by omega) (by simp) HQ3.out.2.1.lt (by simp) _ (HQ3.out.1.below kk) (one_sl w3))
        have hone : beN [1] = 1 := rfl
        rw [HQ3.out.2.1.num, hone, show L + L + 1 = 2 * L + 1 by omega] at HS4
        have hr3' := rowIs_kept hr3 kk
        have hk3' := hk3w.trans kk
        clear hb2 HQ3 hl3len kk hr3 hk3w hone
        go_wp2_with fail
        refine (HS4.out).mono ?_
        rintro e w4 ⟨A4, c4, l4, rfl, q1, q2, q3, hk4⟩
        have HQ4 : Hid (Sl w4 A4 c4 (by8 l4) ∧ BE l4 (2 * L + 1) ∧ Fz w.heap.size A4) := Lib.hid ⟨q1, q2, q3.mono hk3'.size⟩
        have hr4 := rowIs_kept hr3' hk4
        have hk4w := hk3'.trans hk4
        clear q1 q2 q3 hk4 hr3' hk3' HS4
        go_wp2_with fail
        have hstV := HST.out
        by_cases hlt : 2 * L + 1 < Y
        · obtain ⟨hs1, hs2⟩ := hstV.1 hlt
          have HS1 := Lib.hid hs1
          have HS2 := Lib.hid hs2
          have HO := Lib.hid (order_any A4 B c4 k0 l4 m _ _ HQ4.out.2.1 HM.out w4 HQ4.out.1 (HT.out.below hk4w))
          rw [ord_lt hlt] at HO
          clear hstV hs1 hs2 hlt
          refine (HO.out).mono ?_
          rintro e w5 ⟨rfl, hk5⟩
          have hr5 := rowIs_kept hr4 hk5
          have hSl5 := HQ4.out.1.below hk5
          have HSl5 := Lib.hid hSl5
          clear hSl5
          go_wp2_with fail
          refine ⟨⟨8 * q + r, A4, c4, l4, by congr 1, by omega, rfl, ⟨HSl5.out, by rw [HS1.out]; exact HQ4.out.2.1, HQ4.out.2.2⟩, by rw [HS2.out]; exact hr5, hk4w.trans hk5⟩, by simp [intOf]; omega⟩
        · obtain ⟨hs1, hs2⟩ := hstV.2 (by omega)
          have HS1 := Lib.hid hs1
          have HS2 := Lib.hid hs2
          have hog := ord_ge (show Y ≤ 2 * L + 1 by omega)
          have HO := Lib.hid (order_any A4 B c4 k0 l4 m _ _ HQ4.out.2.1 HM.out w4 HQ4.out.1 (HT.out.below hk4w))
          have hVY : Y ≤ 2 * L + 1 := by omega
          have hll := HQ4.out.2.1.len (by have := HY.out; have := HLY.out; omega)
          have HLS : Hid (∀ W, Kept w4 W → Calls Try.prog 46 #[.slice A4 l4.length c4, .slice B m.length k0] W (RetMag W (2 * L + 1 - Y))) := Lib.hid fun W hW => by
            have := less_any A4 B c4 k0 l4 m (by omega) (by omega) HQ4.out.2.1.lt HM.out.lt (by rw [HQ4.out.2.1.num, HM.out.num]; exact hVY) W (HQ4.out.1.below hW) (HT.out.below (hk4w.trans hW))
            rwa [HQ4.out.2.1.num, HM.out.num] at this
          generalize ord (2 * L + 1) Y = o at *
          clear hstV hs1 hs2 hlt hVY hll
          refine (HO.out).mono ?_
          rintro e w5 ⟨rfl, hk5⟩
          have hr5 := rowIs_kept hr4 hk5
          have hk5w := hk4w.trans hk5
          have HL5 := Lib.hid (HLS.out w5 hk5)
          clear HO HLS hr4 hk5
          go_wp2_with fail
          refine (HL5.out).mono ?_
          rintro e w6 ⟨A6, c6, l6, rfl, q1, q2, q3, hk6⟩
          have hr6 := rowIs_kept hr5 hk6
          have hk6w := hk5w.trans hk6
          have HQ6 : Hid (Sl w6 A6 c6 (by8 l6) ∧ BE l6 (X / 2 ^ (8 * q + r) % Y) ∧ Fz w.heap.size A6) := Lib.hid ⟨q1, by rw [HS1.out]; exact q2, q3.mono hk5w.size⟩
          obtain ⟨t, ht1, ht2⟩ := dg_at (X / 2 ^ (8 * q + r + 1) / Y) q r HR8.out
          have hqs := qd_set (X / 2 ^ (8 * q + r + 1) / Y) n q r HR8.out hqn
          have hdl := Num.dg_lt (show 0 < 256 by omega) (X / 2 ^ (8 * q + r + 1) / Y * 2 ^ (8 * q + r + 1) + 2 ^ (8 * q + r)) q
          have hQF : qF X Y (8 * q + r) = X / 2 ^ (8 * q + r + 1) / Y * 2 ^ (8 * q + r + 1) + 2 ^ (8 * q + r) := HS2.out
          rw [ht2] at hdl hqs
          rw [← hQF] at hqs
          have hor := or_bit _ t r HR8.out ht1 (by rw [ht1]; exact hdl)
          have hcl := hr6.cell (i := n - 1 - q) (by omega)
          have hfr := hr6.frozen (n - 1 - q)
          have hset := hr6.set (n - 1 - q) (.int .u8 ((t * 2 ^ (r + 1) + 2 ^ r : Nat) : Int))
          have hset2 := hset.congr hqs
          have hcl2 : w6.cell? ⟨w.heap.size, n - 1 - q, none⟩ = some (.int .u8 ((t * 2 ^ (r + 1) : Nat) : Int)) := by
            rw [hcl, ← ht1]
            unfold qd qF
            congr 4
            omega
          rw [ht1] at hor
          have hbr6 := hk6w.setCell (p := ⟨w.heap.size, n - 1 - q, none⟩) (Nat.le_refl _) (.int .u8 ((t * 2 ^ (r + 1) + 2 ^ r : Nat) : Int))
          have hfin6 : Sl (w6.setCell ⟨w.heap.size, n - 1 - q, none⟩ (.int .u8 ((t * 2 ^ (r + 1) + 2 ^ r : Nat) : Int))) A6 c6 (by8 l6) := q1.setFar (fun b off e => by
            have h1 := q3 b off e
            have h2 := hr5
            obtain ⟨cur, h3, _⟩ := h2
            have h4 := block_lt h3
            omega) _
          have HSET := Lib.hid hset2
          have HFIN := Lib.hid hfin6
          have HOR := Lib.hid hor
          have HBR6 := Lib.hid hbr6
          have hd8 : (8 * (q : Int) + (r : Int)) / 8 = (q : Int) := (cast8 q r HR8.out).2.1
          have hm8 : (8 * (q : Int) + (r : Int)) % 8 = (r : Int) := (cast8 q r HR8.out).2.2
          have hr8I : (r : Int) < 8 := by have := HR8.out; omega
          have hwr : IntKind.u64.wrap (r : Int) = (r : Int) := by rw [IntKind.wrap_u64]; omega
          have hsub : (n : Int) - 1 - (q : Int) = ((n - 1 - q : Nat) : Int) := by omega
          have hsub0 : (0 : Int) ≤ ((n - 1 - q : Nat) : Int) := by omega
          have hsub1 : ((n - 1 - q : Nat) : Int) < (n : Int) := by omega
          clear q1 q2 q3 hk6 hr5 hr6 hk5w hqs hdl hQF hor hcl hset hset2 hbr6 hfin6 ht1 ht2 HL5
          generalize n - 1 - q = pos at *
          generalize t * 2 ^ (r + 1) = d at *
          go_wp2_with fail
          rw [pow_u8 r HR8.out, HOR.out]
          exact ⟨⟨8 * q + r, A6, c6, l6, by congr 1, by omega, rfl, ⟨HFIN.out, HQ6.out.2.1, HQ6.out.2.2⟩, HSET.out, HBR6.out⟩, by simp [intOf]; omega⟩
end Go.Proofs.Ytnheiigdgklbcaa
