/- The reference's integers: sign, zero, bytes of a word, comparison. -/
import Derived.Test.YtoociokhldakbaaGreatO1
import Derived.Deep.RegionHeld3
namespace Go.Proofs.YtoociokhldakbaaGreat
open Go.ChangeShapes Go.WideShapes Go.ChangeAt Go.RowKit
set_option linter.unusedVariables false
set_option maxRecDepth 100000 in
theorem sZer_any (b : Bool) (A : Option Addr) (n c : Nat) (w : World) :
    Calls Tryz.prog 68 #[.agg #[.bool b, .slice A n c]] w fun e w' => e = .returned (.bool ((n : Int) == 0)) ∧ Kept w w' := by
  go_enter Tryz.func68, Tryz.ntmps68
  go_wp2_with fail
  go_ret
  exact ⟨rfl, (Below.refl _ _).alloc (Nat.le_refl _) _⟩
set_option maxRecDepth 100000 in
theorem sSign_any (b : Bool) (A : Option Addr) (n c : Nat) (z : Int) (w : World) (hv : SI w (.agg #[.bool b, .slice A n c]) z) :
    Calls Tryz.prog 62 #[.agg #[.bool b, .slice A n c]] w fun e w' => e = .returned (.int .i64 z.sign) ∧ Kept w w' := by
  have hcase : (((n : Int) == 0) = true ∧ z.sign = 0) ∨ (((n : Int) == 0) = false ∧ b = true ∧ z.sign = -1) ∨ (((n : Int) == 0) = false ∧ b = false ∧ z.sign = 1) := by
    obtain ⟨A', c', l, e, hs, hl⟩ := hv
    injection e with e; injection e with e; injection e with e1 e2; injection e2 with e2 _; injection e1 with e1; injection e2 with _ e2 _
    subst e1 e2
    have hni := hl.nil_iff
    rcases Int.lt_trichotomy z 0 with h | h | h
    · have : l ≠ [] := fun e => by have := hni.1 e; omega
      exact .inr (.inl ⟨by simp [this], decide_eq_true h, Int.sign_eq_neg_one_of_neg h⟩)
    · have : l = [] := hni.2 (by omega)
      exact .inl ⟨by simp [this], by rw [h]; rfl⟩
    · have : l ≠ [] := fun e => by have := hni.1 e; omega
      exact .inr (.inr ⟨by simp [this], decide_eq_false (by omega), Int.sign_eq_one_of_pos h⟩)
  have hb : ∀ w2 : World, Kept (w.alloc (.cells #[.bool b, .slice A n c] 65)) w2 → w2.cell? ⟨w.heap.size, 0, none⟩ = some (.bool b) ∧ Kept w w2 := fun w2 h => ⟨((Blk.new w 65 #[.bool b, .slice A n c]).below h).cell 0, (alloc_kept h).1⟩
  have HB := Lib.hid hb
  clear hb hv
  have HZ := fun W => Lib.hid (sZer_any b A n c W)
  rcases hcase with ⟨h1, h3⟩ | ⟨h1, rfl, h3⟩ | ⟨h1, rfl, h3⟩
  all_goals
    rw [h1] at HZ
    rw [h3]
    clear h1 h3
    go_enter Tryz.func62, Tryz.ntmps62
    go_wp2_with fail
    refine (HZ _).out.mono ?_
    rintro e w1 ⟨rfl, hk1⟩
    obtain ⟨c0, hk⟩ := HB.out w1 hk1
    clear hk1 HZ HB
    go_wp2_with fail
    go_ret
    exact ⟨rfl, hk⟩
theorem be8 (N : Nat) (hN : N < 18446744073709551616) : by8 (Num.be N 8) = [Value.int .u8 ((N : Int) / 256 / 256 / 256 / 256 / 256 / 256 / 256), Value.int .u8 ((N : Int) / 256 / 256 / 256 / 256 / 256 / 256 % 256), Value.int .u8 ((N : Int) / 256 / 256 / 256 / 256 / 256 % 256), Value.int .u8 ((N : Int) / 256 / 256 / 256 / 256 % 256), Value.int .u8 ((N : Int) / 256 / 256 / 256 % 256), Value.int .u8 ((N : Int) / 256 / 256 % 256), Value.int .u8 ((N : Int) / 256 % 256), Value.int .u8 ((N : Int) % 256)] := by
  have e : by8 (Num.be N 8) = [Value.int .u8 ((Num.dg 256 N 7 : Nat) : Int), Value.int .u8 ((Num.dg 256 N 6 : Nat) : Int), Value.int .u8 ((Num.dg 256 N 5 : Nat) : Int), Value.int .u8 ((Num.dg 256 N 4 : Nat) : Int), Value.int .u8 ((Num.dg 256 N 3 : Nat) : Int), Value.int .u8 ((Num.dg 256 N 2 : Nat) : Int), Value.int .u8 ((Num.dg 256 N 1 : Nat) : Int), Value.int .u8 ((Num.dg 256 N 0 : Nat) : Int)] := rfl
  rw [e]
  have d7 : ((Num.dg 256 N 7 : Nat) : Int) = (N : Int) / 256 / 256 / 256 / 256 / 256 / 256 / 256 := by simp only [Num.dg, Nat.reducePow]; omega
  have d6 : ((Num.dg 256 N 6 : Nat) : Int) = (N : Int) / 256 / 256 / 256 / 256 / 256 / 256 % 256 := by simp only [Num.dg, Nat.reducePow]; omega
  have d5 : ((Num.dg 256 N 5 : Nat) : Int) = (N : Int) / 256 / 256 / 256 / 256 / 256 % 256 := by simp only [Num.dg, Nat.reducePow]; omega
  have d4 : ((Num.dg 256 N 4 : Nat) : Int) = (N : Int) / 256 / 256 / 256 / 256 % 256 := by simp only [Num.dg, Nat.reducePow]; omega
  have d3 : ((Num.dg 256 N 3 : Nat) : Int) = (N : Int) / 256 / 256 / 256 % 256 := by simp only [Num.dg, Nat.reducePow]; omega
  have d2 : ((Num.dg 256 N 2 : Nat) : Int) = (N : Int) / 256 / 256 % 256 := by simp only [Num.dg, Nat.reducePow]; omega
  have d1 : ((Num.dg 256 N 1 : Nat) : Int) = (N : Int) / 256 % 256 := by simp only [Num.dg, Nat.reducePow]; omega
  have d0 : ((Num.dg 256 N 0 : Nat) : Int) = (N : Int) % 256 := by simp only [Num.dg, Nat.reducePow]; omega
  rw [d7, d6, d5, d4, d3, d2, d1, d0]
set_option maxRecDepth 100000 in
theorem bytesOf_any (N : Nat) (hN : N < 18446744073709551616) (w : World) :
    Calls Tryz.prog 71 #[.int .u64 N] w fun e w' => e = .returned (.slice (some ⟨w.heap.size, 0, none⟩) 8 8) ∧ Sl w' (some ⟨w.heap.size, 0, none⟩) 8 (by8 (Num.be N 8)) ∧ Kept w w' := by
  have hmk : ∀ W : World, (Instr.makeSlice 29 (.int .i64 8) (.int .i64 8)).run Tryz.prog W = .ok (.slice (some ⟨W.heap.size, 0, none⟩) 8 8) (W.alloc (.cells #[.int .u8 0, .int .u8 0, .int .u8 0, .int .u8 0, .int .u8 0, .int .u8 0, .int .u8 0, .int .u8 0] 5)) := fun _ => by kernel_rfl
  have hNI : (N : Int) < 18446744073709551616 := by omega
  go_enter Tryz.func71, Tryz.ntmps71
  go_wp2_with fail
  go_rounds 9
  go_ret
  rw [be8 N hN]
  refine ⟨rfl, ⟨Nat.le_refl _, by unfold maxLen; omega, fun _ => ⟨_, _, rfl, fun j u hu => ?_⟩⟩, (Below.refl _ _).alloc (Nat.le_refl _) _⟩
  rw [Nat.zero_add, cell_of_row _ _ j _ _ _ (heap_alloc_new w _)]
  rw [← hu]
  exact (List.getElem?_toArray ..)
/-- how two integers stand: -1, 0 or 1 -/
def cmpI (x y : Int) : Int := if x < y then -1 else if x = y then 0 else 1
theorem cmpI_sgn (x y : Int) (h : x.sign ≠ y.sign) : cmpI x y = if x.sign < y.sign then -1 else 1 := by
  unfold cmpI
  rcases Int.lt_trichotomy x 0 with h1 | h1 | h1 <;> rcases Int.lt_trichotomy y 0 with h2 | h2 | h2 <;>
    first
    | (rw [Int.sign_eq_neg_one_of_neg h1, Int.sign_eq_neg_one_of_neg h2] at h; exact absurd rfl h)
    | (rw [Int.sign_eq_one_of_pos h1, Int.sign_eq_one_of_pos h2] at h; exact absurd rfl h)
    | (subst h1; subst h2; exact absurd rfl h)
    | (subst h1; rw [Int.sign_eq_neg_one_of_neg h2]; rw [if_neg (by omega), if_neg (by omega)]; rfl)
    | (subst h1; rw [Int.sign_eq_one_of_pos h2]; rw [if_pos (by omega)]; rfl)
    | (subst h2; rw [Int.sign_eq_neg_one_of_neg h1]; rw [if_pos (by omega)]; rfl)
    | (subst h2; rw [Int.sign_eq_one_of_pos h1]; rw [if_neg (by omega), if_neg (by omega)]; rfl)
    | (rw [Int.sign_eq_neg_one_of_neg h1, Int.sign_eq_one_of_pos h2]; rw [if_pos (by omega)]; rfl)
    | (rw [Int.sign_eq_one_of_pos h1, Int.sign_eq_neg_one_of_neg h2]; rw [if_neg (by omega), if_neg (by omega)]; rfl)
theorem sign_neg_iff (x : Int) : x < 0 ↔ x.sign = -1 := by
  rcases Int.lt_trichotomy x 0 with h1 | h1 | h1
  · rw [Int.sign_eq_neg_one_of_neg h1]; simp [h1]
  · subst h1; simp
  · rw [Int.sign_eq_one_of_pos h1]; simp; omega
theorem cmpI_neg (x y : Int) (h : x.sign = y.sign) (hx : x < 0) : cmpI x y = ord y.natAbs x.natAbs := by
  have hy : y < 0 := (sign_neg_iff y).2 (h ▸ (sign_neg_iff x).1 hx)
  unfold cmpI ord
  split <;> split <;> (try split) <;> (try split) <;> first | rfl | omega
theorem cmpI_pos (x y : Int) (h : x.sign = y.sign) (hx : ¬ x < 0) : cmpI x y = ord x.natAbs y.natAbs := by
  have hy : ¬ y < 0 := fun hy => hx ((sign_neg_iff x).2 (h ▸ (sign_neg_iff y).1 hy))
  unfold cmpI ord
  split <;> split <;> (try split) <;> (try split) <;> first | rfl | omega
theorem SI.parts {w : World} {b : Bool} {A : Option Addr} {n c : Nat} {z : Int} (h : SI w (.agg #[.bool b, .slice A n c]) z) : b = decide (z < 0) ∧ ∃ l : List Nat, n = l.length ∧ Sl w A c (by8 l) ∧ BE l z.natAbs := by
  obtain ⟨A', c', l, e, hs, hl⟩ := h
  injection e with e; injection e with e; injection e with e1 e2; injection e2 with e2 _; injection e1 with e1; injection e2 with e0 e2 e3
  subst e0 e1 e2 e3
  exact ⟨rfl, l, rfl, hs, hl⟩
set_option maxRecDepth 100000 in
set_option maxHeartbeats 1000000 in
theorem sCmp_any (bx : Bool) (Ax : Option Addr) (nx cx : Nat) (x : Int) (yb : Bool) (Ay : Option Addr) (ny cy : Nat) (y : Int) (w : World) (hx : SI w (.agg #[.bool bx, .slice Ax nx cx]) x) (hy : SI w (.agg #[.bool yb, .slice Ay ny cy]) y) :
    Calls Tryz.prog 55 #[.agg #[.bool bx, .slice Ax nx cx], .agg #[.bool yb, .slice Ay ny cy]] w fun e w' => e = .returned (.int .i64 (cmpI x y)) ∧ Kept w w' := by
  have hk0 : Kept w ((w.alloc (.cells #[.bool bx, .slice Ax nx cx] 65)).alloc (.cells #[.bool yb, .slice Ay ny cy] 65)) := by go_grown
  have b1 : Blk ((w.alloc (.cells #[.bool bx, .slice Ax nx cx] 65)).alloc (.cells #[.bool yb, .slice Ay ny cy] 65)) w.heap.size 65 #[.bool bx, .slice Ax nx cx] := (Blk.new w _ _).below ((Below.refl _ _).alloc (Nat.le_refl _) _)
  have b2 : Blk ((w.alloc (.cells #[.bool bx, .slice Ax nx cx] 65)).alloc (.cells #[.bool yb, .slice Ay ny cy] 65)) (w.heap.size + 1) 65 #[.bool yb, .slice Ay ny cy] := by
    have := Blk.new (w.alloc (.cells #[.bool bx, .slice Ax nx cx] 65)) 65 #[.bool yb, .slice Ay ny cy]
    rwa [World.size_alloc] at this
  have HX := Lib.hid (hx.below hk0)
  have HY := Lib.hid (hy.below hk0)
  clear hx hy
  generalize hsx : x.sign = sx
  generalize hsy : y.sign = sy
  have HSX := Lib.hid hsx
  have HSY := Lib.hid hsy
  clear hsx hsy
  go_enter Tryz.func55, Tryz.ntmps55
  go_wp2_with fail
  generalize ((w.alloc (.cells #[.bool bx, .slice Ax nx cx] 65)).alloc (.cells #[.bool yb, .slice Ay ny cy] 65)) = W at *
  have c1 : W.cell? ⟨w.heap.size, 0, none⟩ = some (.bool bx) := b1.cell 0
  have c2 : W.cell? ⟨w.heap.size, 1, none⟩ = some (.slice Ax nx cx) := b1.cell 1
  have c3 : W.cell? ⟨w.heap.size + 1, 0, none⟩ = some (.bool yb) := b2.cell 0
  have c4 : W.cell? ⟨w.heap.size + 1, 1, none⟩ = some (.slice Ay ny cy) := b2.cell 1
  have l1 := b1.lt
  have l2 := b2.lt
  have KEEP : Hid (∀ X : World, Kept W X → X.cell? ⟨w.heap.size, 0, none⟩ = some (.bool bx) ∧ X.cell? ⟨w.heap.size, 1, none⟩ = some (.slice Ax nx cx) ∧ X.cell? ⟨w.heap.size + 1, 0, none⟩ = some (.bool yb) ∧ X.cell? ⟨w.heap.size + 1, 1, none⟩ = some (.slice Ay ny cy)) := Lib.hid fun X h =>
    ⟨(h.cell l1).trans c1, (h.cell l1).trans c2, (h.cell l2).trans c3, (h.cell l2).trans c4⟩
  clear b1 b2
  by_cases hss : sx = sy
  · subst hss
    have e1 : (sx != sx) = false := by simp
    have HS : Hid (x.sign = y.sign) := Lib.hid (HSX.out.trans HSY.out.symm)
    go_region_held3 (fun X : World => X.cell? ⟨w.heap.size, 0, none⟩ = some (.bool bx) ∧ X.cell? ⟨w.heap.size, 1, none⟩ = some (.slice Ax nx cx) ∧ X.cell? ⟨w.heap.size + 1, 0, none⟩ = some (.bool yb) ∧ X.cell? ⟨w.heap.size + 1, 1, none⟩ = some (.slice Ay ny cy))
      (first | exact KEEP.out _ (by go_grown))
      (first
        | (go_at_call 62
           (with_reducible refine Calls.mono (sSign_any bx Ax nx cx x _ ?_) ?_)
           · exact HX.out.below (by go_grown)
           rw [HSX.out]
           rintro e w3 ⟨rfl, hk3'⟩
           have hk3 : Kept W w3 := Below.trans (by go_grown) (hk3'.mono (by go_size))
           have hz3 := hk3.size
           clear hk3')
        | (go_at_call 62
           (with_reducible refine Calls.mono (sSign_any yb Ay ny cy y _ ?_) ?_)
           · exact HY.out.below (by go_grown)
           rw [HSY.out]
           rintro e w4 ⟨rfl, hk4'⟩
           have hk4 : Kept W w4 := Below.trans (by go_grown) (hk4'.mono (by go_size))
           clear hk4'))
    obtain ⟨d1, d2, d3, d4⟩ := KEEP.out _ hk4
    have hkk : Kept w w4 := Below.trans hk0 (hk4.mono hk0.size)
    have HX4 := Lib.hid (HX.out.below hk4)
    have HY4 := Lib.hid (HY.out.below hk4)
    obtain ⟨hbx, lx, rfl, qx, ux⟩ := HX4.out.parts
    obtain ⟨_, ly, rfl, qy, uy⟩ := HY4.out.parts
    have HQ : Hid ((Sl w4 Ax cx (by8 lx) ∧ BE lx x.natAbs) ∧ Sl w4 Ay cy (by8 ly) ∧ BE ly y.natAbs) := Lib.hid ⟨⟨qx, ux⟩, qy, uy⟩
    clear qx ux qy uy c1 c2 c3 c4
    by_cases hn : x < 0
    · have hbt : bx = true := by rw [hbx]; exact decide_eq_true hn
      subst hbt
      have HN : Hid (cmpI x y = ord y.natAbs x.natAbs) := Lib.hid (cmpI_neg x y HS.out hn)
      clear hn hbx
      go_wp2_with fail
      refine (order_any Ay Ax cy cx ly lx _ _ HQ.out.2.2 HQ.out.1.2 w4 HQ.out.2.1 HQ.out.1.1).mono ?_
      rw [← HN.out]
      rintro e w5 ⟨rfl, hk5⟩
      generalize hC : cmpI x y = C
      have HC := Lib.hid hC
      clear hC
      go_wp2_with fail
      go_ret
      exact ⟨ret_i64 HC.out.symm, hkk.trans hk5⟩
    · have hbt : bx = false := by rw [hbx]; exact decide_eq_false hn
      subst hbt
      have HN : Hid (cmpI x y = ord x.natAbs y.natAbs) := Lib.hid (cmpI_pos x y HS.out hn)
      clear hn hbx
      go_wp2_with fail
      refine (order_any Ax Ay cx cy lx ly _ _ HQ.out.1.2 HQ.out.2.2 w4 HQ.out.1.1 HQ.out.2.1).mono ?_
      rw [← HN.out]
      rintro e w5 ⟨rfl, hk5⟩
      generalize hC : cmpI x y = C
      have HC := Lib.hid hC
      clear hC
      go_wp2_with fail
      go_ret
      exact ⟨ret_i64 HC.out.symm, hkk.trans hk5⟩
  · have e1 : (sx != sy) = true := by simpa using hss
    have HN : Hid (cmpI x y = if sx < sy then -1 else 1) := Lib.hid (by rw [← HSX.out, ← HSY.out]; exact cmpI_sgn x y (by rw [HSX.out, HSY.out]; exact hss))
    clear hss
    go_region_held3 (fun X : World => X.cell? ⟨w.heap.size, 0, none⟩ = some (.bool bx) ∧ X.cell? ⟨w.heap.size, 1, none⟩ = some (.slice Ax nx cx) ∧ X.cell? ⟨w.heap.size + 1, 0, none⟩ = some (.bool yb) ∧ X.cell? ⟨w.heap.size + 1, 1, none⟩ = some (.slice Ay ny cy))
      (first | exact KEEP.out _ (by go_grown))
      (first
        | (go_at_call 62
           (with_reducible refine Calls.mono (sSign_any bx Ax nx cx x _ ?_) ?_)
           · exact HX.out.below (by go_grown)
           rw [HSX.out]
           rintro e w3 ⟨rfl, hk3'⟩
           have hk3 : Kept W w3 := Below.trans (by go_grown) (hk3'.mono (by go_size))
           have hz3 := hk3.size
           clear hk3')
        | (go_at_call 62
           (with_reducible refine Calls.mono (sSign_any yb Ay ny cy y _ ?_) ?_)
           · exact HY.out.below (by go_grown)
           rw [HSY.out]
           rintro e w4 ⟨rfl, hk4'⟩
           have hk4 : Kept W w4 := Below.trans (by go_grown) (hk4'.mono (by go_size))
           have hz4 := hk4.size
           clear hk4'))
    obtain ⟨d1, d2, d3, d4⟩ := KEEP.out _ hk4
    go_wp2_with fail
    go_region_held3 (fun X : World => X.cell? ⟨w.heap.size, 0, none⟩ = some (.bool bx) ∧ X.cell? ⟨w.heap.size, 1, none⟩ = some (.slice Ax nx cx) ∧ X.cell? ⟨w.heap.size + 1, 0, none⟩ = some (.bool yb) ∧ X.cell? ⟨w.heap.size + 1, 1, none⟩ = some (.slice Ay ny cy))
      (first | exact KEEP.out _ (by go_grown))
      (first
        | (go_at_call 62
           (with_reducible refine Calls.mono (sSign_any bx Ax nx cx x _ ?_) ?_)
           · exact HX.out.below (by go_grown)
           rw [HSX.out]
           rintro e w5 ⟨rfl, hk5'⟩
           have hk5 : Kept W w5 := Below.trans (by go_grown) (hk5'.mono (by go_size))
           have hz5 := hk5.size
           clear hk5')
        | (go_at_call 62
           (with_reducible refine Calls.mono (sSign_any yb Ay ny cy y _ ?_) ?_)
           · exact HY.out.below (by go_grown)
           rw [HSY.out]
           rintro e w6 ⟨rfl, hk6'⟩
           have hk6 : Kept W w6 := Below.trans (by go_grown) (hk6'.mono (by go_size))
           clear hk6'))
    have hkk : Kept w w6 := Below.trans hk0 (hk6.mono hk0.size)
    by_cases hlt : sx < sy
    · have HN2 : Hid (cmpI x y = -1) := Lib.hid (HN.out.trans (if_pos hlt))
      go_wp2_with fail
      go_ret
      exact ⟨ret_i64 HN2.out.symm, hkk⟩
    · have HN2 : Hid (cmpI x y = 1) := Lib.hid (HN.out.trans (if_neg hlt))
      go_wp2_with fail
      go_ret
      exact ⟨ret_i64 HN2.out.symm, hkk⟩

end Go.Proofs.YtoociokhldakbaaGreat
