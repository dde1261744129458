/- The reference's integers told. -/
import Derived.Test.YtnheiigdgklbcaaSc
namespace Go.Proofs.Ytnheiigdgklbcaa
open Go.ChangeShapes Go.WideShapes Go.ChangeAt Go.RowKit
set_option linter.unusedVariables false
theorem hor_step (N q : Nat) (hq : q < 8) : N % 18446744073709551616 / 256 ^ q = N % 18446744073709551616 / 256 ^ (q + 1) * 256 + Num.dg 256 N q ∧ N % 18446744073709551616 / 256 ^ (q + 1) < 72057594037927936 := by
  have h : q = 0 ∨ q = 1 ∨ q = 2 ∨ q = 3 ∨ q = 4 ∨ q = 5 ∨ q = 6 ∨ q = 7 := by omega
  rcases h with rfl | rfl | rfl | rfl | rfl | rfl | rfl | rfl <;> (simp only [Num.dg, Nat.reducePow, Nat.reduceAdd]; omega)
theorem or_digit (u d : Nat) (hu : u < 72057594037927936) (hd : d < 256) : bits .or .u64 ((u : Int) * 256) (d : Int) = ((u * 256 + d : Nat) : Int) := by
  have c1 : (u : Int) * 256 = ((u * 256 : Nat) : Int) := by omega
  have e1 : d ||| u * 256 = d + u * 256 := or_shl d u 8 (by omega)
  rw [c1, u64_or_nat _ _ (by omega) (by omega), Nat.or_comm, e1]
  omega
set_option maxRecDepth 100000 in
theorem low_any (b : Bool) (A : Option Addr) (n c : Nat) (z : Int) (w : World) (hv : SI w (.agg #[.bool b, .slice A n c]) z) :
    Calls Try.prog 23 #[.agg #[.bool b, .slice A n c]] w fun e w' => e = .returned (.int .u64 ((z.natAbs % 18446744073709551616 : Nat) : Int)) ∧ Kept w w' := by
  obtain ⟨A', c', l, e, hs, hl⟩ := hv
  injection e with e; injection e with e; injection e with e1 e2; injection e2 with e2 _; injection e1 with e1; injection e2 with e0 e2 e3
  subst e0 e1 e2 e3
  have hk0 : Kept w (w.alloc (.cells #[.bool (decide (z < 0)), .slice A l.length c] 24)) := by go_grown
  have c1 : (w.alloc (.cells #[.bool (decide (z < 0)), .slice A l.length c] 24)).cell? ⟨w.heap.size, 1, none⟩ = some (.slice A l.length c) := (Blk.new w _ _).cell 1
  have HD : Hid (∀ i W, i ≤ 7 → Kept w W → Calls Try.prog 44 #[.slice A l.length c, .int .i64 (i : Nat)] W fun e w' => e = .returned (.int .i64 ((Num.dg 256 z.natAbs i : Nat) : Int)) ∧ W = w') := Lib.hid fun i W hi hk => by
    have := digit_any A c l hl.lt i (by omega) W (hs.below hk)
    rwa [hl.num] at this
  clear hs hl
  generalize z.natAbs = N at *
  generalize (decide (z < 0)) = b at *
  go_enter Try.func23, Try.ntmps23
  go_wp2_with fail
  generalize (w.alloc (.cells #[.bool b, .slice A l.length c] 24)) = W at *
  go_loop [3, 4] (fun uv iv => ∃ q : Nat, q ≤ 8 ∧ iv = .int .i64 ((q : Int) - 1) ∧ uv = .int .u64 ((N % 18446744073709551616 / 256 ^ q : Nat) : Int)) (fun _ iv => (intOf iv + 1).toNat)
  case atStart => exact ⟨8, by omega, rfl, by rw [Nat.div_eq_of_lt (by have : (256 : Nat) ^ 8 = 18446744073709551616 := by decide
                                                                       rw [this]; exact Nat.mod_lt _ (by decide))]; rfl⟩
  case round =>
    obtain ⟨q, hq, rfl, rfl⟩ := hrel
    rcases q with _ | q
    · go_wp2_with fail
      go_ret
      exact ⟨rfl, hk0⟩
    · have e1 : (((q + 1 : Nat) : Int) - 1) = (q : Int) := by omega
      rw [e1]
      obtain ⟨hst, hbd⟩ := hor_step N q (by omega)
      have hdg := Num.dg_lt (by omega : 0 < 256) N q
      have HST := Lib.hid hst
      have hq7 : (q : Int) ≤ 7 := by omega
      have hor := or_digit _ _ hbd hdg
      have HOR := Lib.hid hor
      have HDq := Lib.hid (HD.out q W (by omega) hk0)
      clear hst e1 hor
      generalize N % 18446744073709551616 / 256 ^ (q + 1) = u at *
      generalize hdd : Num.dg 256 N q = d at *
      have HDD := Lib.hid hdd
      have hub : (u : Int) < 72057594037927936 := by omega
      have hdI : (d : Int) < 256 := by omega
      have hw : IntKind.u64.wrap ((u : Int) * 256) = (u : Int) * 256 := by rw [IntKind.wrap_u64]; omega
      have hw2 : IntKind.u64.wrap (d : Int) = (d : Int) := by rw [IntKind.wrap_u64]; omega
      clear hdd
      go_wp2_with fail
      refine (HDq.out).mono ?_
      rintro e w1 ⟨rfl, rfl⟩
      go_wp2_with fail
      refine ⟨⟨q, by omega, rfl, ?_⟩, by simp [intOf]⟩
      rw [HST.out]
      exact congrArg (Value.int IntKind.u64) HOR.out
/-- how two integers stand: -1, 0 or 1 -/
def cmpI (x y : Int) : Int := if x < y then -1 else if x = y then 0 else 1
theorem cmpI_sgn (x y : Int) (h : x.sign ≠ y.sign) : cmpI x y = if x.sign < y.sign then -1 else 1 := by
  unfold cmpI
  rcases Int.lt_trichotomy x 0 with h1 | h1 | h1 <;> rcases Int.lt_trichotomy y 0 with h2 | h2 | h2 <;>
    first
    | (rw [Int.sign_eq_neg_one_of_neg h1, Int.sign_eq_neg_one_of_neg h2] at h; exact absurd rfl h)
    | (rw [Int.sign_eq_one_of_pos h1, Int.sign_eq_one_of_pos h2] at h; exact absurd rfl h)
    | (subst h1; subst h2; exact absurd rfl h)
    | (subst h1; rw [Int.sign_eq_neg_one_of_neg h2]; rw [if_neg (by omega), if_neg (by omega)]; rfl)
    | (subst h1; rw [Int.sign_eq_one_of_pos h2]; rw [if_pos (by omega)]; rfl)
    | (subst h2; rw [Int.sign_eq_neg_one_of_neg h1]; rw [if_pos (by omega)]; rfl)
    | (subst h2; rw [Int.sign_eq_one_of_pos h1]; rw [if_neg (by omega), if_neg (by omega)]; rfl)
    | (rw [Int.sign_eq_neg_one_of_neg h1, Int.sign_eq_one_of_pos h2]; rw [if_pos (by omega)]; rfl)
    | (rw [Int.sign_eq_one_of_pos h1, Int.sign_eq_neg_one_of_neg h2]; rw [if_neg (by omega), if_neg (by omega)]; rfl)
theorem sign_neg_iff (x : Int) : x < 0 ↔ x.sign = -1 := by
  rcases Int.lt_trichotomy x 0 with h1 | h1 | h1
  · rw [Int.sign_eq_neg_one_of_neg h1]; simp [h1]
  · subst h1; simp
  · rw [Int.sign_eq_one_of_pos h1]; simp; omega
theorem cmpI_neg (x y : Int) (h : x.sign = y.sign) (hx : x < 0) : cmpI x y = ord y.natAbs x.natAbs := by
  have hy : y < 0 := (sign_neg_iff y).2 (h ▸ (sign_neg_iff x).1 hx)
  unfold cmpI ord
  split <;> split <;> (try split) <;> (try split) <;> first | rfl | omega
theorem cmpI_pos (x y : Int) (h : x.sign = y.sign) (hx : ¬ x < 0) : cmpI x y = ord x.natAbs y.natAbs := by
  have hy : ¬ y < 0 := fun hy => hx ((sign_neg_iff x).2 (h ▸ (sign_neg_iff y).1 hy))
  unfold cmpI ord
  split <;> split <;> (try split) <;> (try split) <;> first | rfl | omega
theorem SI.parts {w : World} {b : Bool} {A : Option Addr} {n c : Nat} {z : Int} (h : SI w (.agg #[.bool b, .slice A n c]) z) : b = decide (z < 0) ∧ ∃ l : List Nat, n = l.length ∧ Sl w A c (by8 l) ∧ BE l z.natAbs := by
  obtain ⟨A', c', l, e, hs, hl⟩ := h
  injection e with e; injection e with e; injection e with e1 e2; injection e2 with e2 _; injection e1 with e1; injection e2 with e0 e2 e3
  subst e0 e1 e2 e3
  exact ⟨rfl, l, rfl, hs, hl⟩
set_option maxRecDepth 100000 in
set_option maxHeartbeats 1000000 in
theorem sCmp_any (bx : Bool) (Ax : Option Addr) (nx cx : Nat) (x : Int) (yb : Bool) (Ay : Option Addr) (ny cy : Nat) (y : Int) (w : World) (hx : SI w (.agg #[.bool bx, .slice Ax nx cx]) x) (hy : SI w (.agg #[.bool yb, .slice Ay ny cy]) y) :
    Calls Try.prog 17 #[.agg #[.bool bx, .slice Ax nx cx], .agg #[.bool yb, .slice Ay ny cy]] w fun e w' => e = .returned (.int .i64 (cmpI x y)) ∧ Kept w w' := by
  have hk0 : Kept w ((w.alloc (.cells #[.bool bx, .slice Ax nx cx] 24)).alloc (.cells #[.bool yb, .slice Ay ny cy] 24)) := by go_grown
  have b1 : Blk ((w.alloc (.cells #[.bool bx, .slice Ax nx cx] 24)).alloc (.cells #[.bool yb, .slice Ay ny cy] 24)) w.heap.size 24 #[.bool bx, .slice Ax nx cx] := (Blk.new w _ _).below ((Below.refl _ _).alloc (Nat.le_refl _) _)
  have b2 : Blk ((w.alloc (.cells #[.bool bx, .slice Ax nx cx] 24)).alloc (.cells #[.bool yb, .slice Ay ny cy] 24)) (w.heap.size + 1) 24 #[.bool yb, .slice Ay ny cy] := by
    have := Blk.new (w.alloc (.cells #[.bool bx, .slice Ax nx cx] 24)) 24 #[.bool yb, .slice Ay ny cy]
    rwa [World.size_alloc] at this
  have HX := Lib.hid (hx.below hk0)
  have HY := Lib.hid (hy.below hk0)
  clear hx hy
  generalize hsx : x.sign = sx
  generalize hsy : y.sign = sy
  have HSX := Lib.hid hsx
  have HSY := Lib.hid hsy
  clear hsx hsy
  go_enter Try.func17, Try.ntmps17
  go_wp2_with fail
  generalize ((w.alloc (.cells #[.bool bx, .slice Ax nx cx] 24)).alloc (.cells #[.bool yb, .slice Ay ny cy] 24)) = W at *
  have c1 : W.cell? ⟨w.heap.size, 0, none⟩ = some (.bool bx) := b1.cell 0
  have c2 : W.cell? ⟨w.heap.size, 1, none⟩ = some (.slice Ax nx cx) := b1.cell 1
  have c3 : W.cell? ⟨w.heap.size + 1, 0, none⟩ = some (.bool yb) := b2.cell 0
  have c4 : W.cell? ⟨w.heap.size + 1, 1, none⟩ = some (.slice Ay ny cy) := b2.cell 1
  have l1 := b1.lt
  have l2 := b2.lt
  have KEEP : Hid (∀ X : World, Kept W X → X.cell? ⟨w.heap.size, 0, none⟩ = some (.bool bx) ∧ X.cell? ⟨w.heap.size, 1, none⟩ = some (.slice Ax nx cx) ∧ X.cell? ⟨w.heap.size + 1, 0, none⟩ = some (.bool yb) ∧ X.cell? ⟨w.heap.size + 1, 1, none⟩ = some (.slice Ay ny cy)) := Lib.hid fun X h =>
    ⟨(h.cell l1).trans c1, (h.cell l1).trans c2, (h.cell l2).trans c3, (h.cell l2).trans c4⟩
  clear b1 b2
  by_cases hss : sx = sy
  · subst hss
    have e1 : (sx != sx) = false := by simp
    have HS : Hid (x.sign = y.sign) := Lib.hid (HSX.out.trans HSY.out.symm)
    go_region_held3 (fun X : World => X.cell? ⟨w.heap.size, 0, none⟩ = some (.bool bx) ∧ X.cell? ⟨w.heap.size, 1, none⟩ = some (.slice Ax nx cx) ∧ X.cell? ⟨w.heap.size + 1, 0, none⟩ = some (.bool yb) ∧ X.cell? ⟨w.heap.size + 1, 1, none⟩ = some (.slice Ay ny cy))
      (first | exact KEEP.out _ (by go_grown))
      (first
        | (go_at_call 42
           (with_reducible refine Calls.mono (sSign_any bx Ax nx cx x _ ?_) ?_)
           · exact HX.out.below (by go_grown)
           rw [HSX.out]
           rintro e w3 ⟨rfl, hk3'⟩
           have hk3 : Kept W w3 := Below.trans (by go_grown) (hk3'.mono (by go_size))
           have hz3 := hk3.size
           clear hk3')
        | (go_at_call 42
           (with_reducible refine Calls.mono (sSign_any yb Ay ny cy y _ ?_) ?_)
           · exact HY.out.below (by go_grown)
           rw [HSY.out]
           rintro e w4 ⟨rfl, hk4'⟩
           have hk4 : Kept W w4 := Below.trans (by go_grown) (hk4'.mono (by go_size))
           clear hk4'))
    obtain ⟨d1, d2, d3, d4⟩ := KEEP.out _ hk4
    have hkk : Kept w w4 := Below.trans hk0 (hk4.mono hk0.size)
    have HX4 := Lib.hid (HX.out.below hk4)
    have HY4 := Lib.hid (HY.out.below hk4)
    obtain ⟨hbx, lx, rfl, qx, ux⟩ := HX4.out.parts
    obtain ⟨_, ly, rfl, qy, uy⟩ := HY4.out.parts
    have HQ : Hid ((Sl w4 Ax cx (by8 lx) ∧ BE lx x.natAbs) ∧ Sl w4 Ay cy (by8 ly) ∧ BE ly y.natAbs) := Lib.hid ⟨⟨qx, ux⟩, qy, uy⟩
    clear qx ux qy uy c1 c2 c3 c4
    by_cases hn : x < 0
    · have hbt : bx = true := by rw [hbx]; exact decide_eq_true hn
      subst hbt
      have HN : Hid (cmpI x y = ord y.natAbs x.natAbs) := Lib.hid (cmpI_neg x y HS.out hn)
      clear hn hbx
      go_wp2_with fail
      refine (order_any Ay Ax cy cx ly lx _ _ HQ.out.2.2 HQ.out.1.2 w4 HQ.out.2.1 HQ.out.1.1).mono ?_
      rw [← HN.out]
      rintro e w5 ⟨rfl, hk5⟩
      generalize hC : cmpI x y = C
      have HC := Lib.hid hC
      clear hC
      go_wp2_with fail
      go_ret
      exact ⟨ret_i64 HC.out.symm, hkk.trans hk5⟩
    · have hbt : bx = false := by rw [hbx]; exact decide_eq_false hn
      subst hbt
      have HN : Hid (cmpI x y = ord x.natAbs y.natAbs) := Lib.hid (cmpI_pos x y HS.out hn)
      clear hn hbx
      go_wp2_with fail
      refine (order_any Ax Ay cx cy lx ly _ _ HQ.out.1.2 HQ.out.2.2 w4 HQ.out.1.1 HQ.out.2.1).mono ?_
      rw [← HN.out]
      rintro e w5 ⟨rfl, hk5⟩
      generalize hC : cmpI x y = C
      have HC := Lib.hid hC
      clear hC
      go_wp2_with fail
      go_ret
      exact ⟨ret_i64 HC.out.symm, hkk.trans hk5⟩
  · have e1 : (sx != sy) = true := by simpa using hss
    have HN : Hid (cmpI x y = if sx < sy then -1 else 1) := Lib.hid (by rw [← HSX.out, ← HSY.out]; exact cmpI_sgn x y (by rw [HSX.out, HSY.out]; exact hss))
    clear hss
    go_region_held3 (fun X : World => X.cell? ⟨w.heap.size, 0, none⟩ = some (.bool bx) ∧ X.cell? ⟨w.heap.size, 1, none⟩ = some (.slice Ax nx cx) ∧ X.cell? ⟨w.heap.size + 1, 0, none⟩ = some (.bool yb) ∧ X.cell? ⟨w.heap.size + 1, 1, none⟩ = some (.slice Ay ny cy))
      (first | exact KEEP.out _ (by go_grown))
      (first
        | (go_at_call 42
           (with_reducible refine Calls.mono (sSign_any bx Ax nx cx x _ ?_) ?_)
           · exact HX.out.below (by go_grown)
           rw [HSX.out]
           rintro e w3 ⟨rfl, hk3'⟩
           have hk3 : Kept W w3 := Below.trans (by go_grown) (hk3'.mono (by go_size))
           have hz3 := hk3.size
           clear hk3')
        | (go_at_call 42
           (with_reducible refine Calls.mono (sSign_any yb Ay ny cy y _ ?_) ?_)
           · exact HY.out.below (by go_grown)
           rw [HSY.out]
           rintro e w4 ⟨rfl, hk4'⟩
           have hk4 : Kept W w4 := Below.trans (by go_grown) (hk4'.mono (by go_size))
           have hz4 := hk4.size
           clear hk4'))
    obtain ⟨d1, d2, d3, d4⟩ := KEEP.out _ hk4
    go_wp2_with fail
    go_region_held3 (fun X : World => X.cell? ⟨w.heap.size, 0, none⟩ = some (.bool bx) ∧ X.cell? ⟨w.heap.size, 1, none⟩ = some (.slice Ax nx cx) ∧ X.cell? ⟨w.heap.size + 1, 0, none⟩ = some (.bool yb) ∧ X.cell? ⟨w.heap.size + 1, 1, none⟩ = some (.slice Ay ny cy))
      (first | exact KEEP.out _ (by go_grown))
      (first
        | (go_at_call 42
           (with_reducible refine Calls.mono (sSign_any bx Ax nx cx x _ ?_) ?_)
           · exact HX.out.below (by go_grown)
           rw [HSX.out]
           rintro e w5 ⟨rfl, hk5'⟩
           have hk5 : Kept W w5 := Below.trans (by go_grown) (hk5'.mono (by go_size))
           have hz5 := hk5.size
           clear hk5')
        | (go_at_call 42
           (with_reducible refine Calls.mono (sSign_any yb Ay ny cy y _ ?_) ?_)
           · exact HY.out.below (by go_grown)
           rw [HSY.out]
           rintro e w6 ⟨rfl, hk6'⟩
           have hk6 : Kept W w6 := Below.trans (by go_grown) (hk6'.mono (by go_size))
           clear hk6'))
    have hkk : Kept w w6 := Below.trans hk0 (hk6.mono hk0.size)
    by_cases hlt : sx < sy
    · have HN2 : Hid (cmpI x y = -1) := Lib.hid (HN.out.trans (if_pos hlt))
      go_wp2_with fail
      go_ret
      exact ⟨ret_i64 HN2.out.symm, hkk⟩
    · have HN2 : Hid (cmpI x y = 1) := Lib.hid (HN.out.trans (if_neg hlt))
      go_wp2_with fail
      go_ret
      exact ⟨ret_i64 HN2.out.symm, hkk⟩
end Go.Proofs.Ytnheiigdgklbcaa
