/- The reference's addition. -/
import Derived.Test.YtnheiigdgklbcaaSf
import Derived.Test.YtnheiigdgklbcaaSd
import Derived.Deep.RegionHeld3
namespace Go.Proofs.Ytnheiigdgklbcaa
open Go.ChangeShapes Go.WideShapes Go.ChangeAt Go.RowKit
set_option linter.unusedVariables false
theorem cap_twice (k : Nat) : 256 ^ k + 256 ^ k ≤ 256 ^ (k + 1) := by
  rw [Nat.pow_succ]
  omega
theorem ord_ge' {A B : Nat} (h : B ≤ A) : 0 ≤ ord A B := by unfold ord; split <;> (try split) <;> omega
theorem mag_len2 {l : List Nat} {N : Nat} (h : BE l N) (hN : N < Num.Cap + Num.Cap) : l.length ≤ 2147483647 := by
  have hc : Num.Cap + Num.Cap ≤ 256 ^ (Num.capK + 1) := by
    have h := cap_twice Num.capK
    unfold Num.Cap
    exact h
  have h3 := Num.len_lt 256 (by decide) l.reverse h.1 (Num.capK + 1) (by rw [h.2]; exact Nat.lt_of_lt_of_le hN hc)
  rw [List.length_reverse] at h3
  have h4 : Num.capK = 4096 := rfl
  omega
theorem add_same (x y : Int) (h : decide (x < 0) = decide (y < 0)) : x + y = sgn (decide (x < 0)) (x.natAbs + y.natAbs) := by
  have h2 : x < 0 ↔ y < 0 := by simpa using h
  unfold sgn
  by_cases hx : x < 0
  · rw [if_pos (by simpa using hx)]; have := h2.1 hx; omega
  · rw [if_neg (by simpa using hx)]; have : ¬ y < 0 := fun hy => hx (h2.2 hy); omega
theorem add_ge (x y : Int) (h : decide (x < 0) ≠ decide (y < 0)) (hle : y.natAbs ≤ x.natAbs) : x + y = sgn (decide (x < 0)) (x.natAbs - y.natAbs) := by
  unfold sgn
  by_cases hx : x < 0
  · have hy : ¬ y < 0 := fun hy => h (by simp [hx, hy])
    rw [if_pos (by simpa using hx)]; omega
  · have hy : y < 0 := by
      rcases Classical.em (y < 0) with h1 | h1
      · exact h1
      · exact absurd (by simp [hx, h1]) h
    rw [if_neg (by simpa using hx)]; omega
set_option maxRecDepth 100000 in
set_option maxHeartbeats 4000000 in
theorem sAdd_any (bx : Bool) (Ax : Option Addr) (nx cx : Nat) (x : Int) (yb : Bool) (Ay : Option Addr) (ny cy : Nat) (y : Int) (hxc : x.natAbs < Num.Cap) (hyc : y.natAbs < Num.Cap) (w : World) (hx : SI w (.agg #[.bool bx, .slice Ax nx cx]) x) (hy : SI w (.agg #[.bool yb, .slice Ay ny cy]) y) :
    Calls Try.prog 20 #[.agg #[.bool bx, .slice Ax nx cx], .agg #[.bool yb, .slice Ay ny cy]] w (RetSI w (x + y)) := by
  obtain ⟨hbx, lx, rfl, sx, ux⟩ := hx.parts
  obtain ⟨hby, ly, rfl, sy, uy⟩ := hy.parts
  have hk0 : Kept w (((w.alloc (.cells #[.bool bx, .slice Ax lx.length cx] 24)).alloc (.cells #[.bool yb, .slice Ay ly.length cy] 24)).alloc (.cells #[.bool false, .slice none 0 0] 24)) := by go_grown
  have b1 : Blk (((w.alloc (.cells #[.bool bx, .slice Ax lx.length cx] 24)).alloc (.cells #[.bool yb, .slice Ay ly.length cy] 24)).alloc (.cells #[.bool false, .slice none 0 0] 24)) w.heap.size 24 #[.bool bx, .slice Ax lx.length cx] :=
    ((Blk.new w _ _).below ((Below.refl _ _).alloc (Nat.le_refl _) _)).below ((Below.refl _ _).alloc (Nat.le_refl _) _)
  have b2 : Blk (((w.alloc (.cells #[.bool bx, .slice Ax lx.length cx] 24)).alloc (.cells #[.bool yb, .slice Ay ly.length cy] 24)).alloc (.cells #[.bool false, .slice none 0 0] 24)) (w.heap.size + 1) 24 #[.bool yb, .slice Ay ly.length cy] := by
    have := (Blk.new (w.alloc (.cells #[.bool bx, .slice Ax lx.length cx] 24)) 24 #[.bool yb, .slice Ay ly.length cy]).below ((Below.refl _ _).alloc (Nat.le_refl _) (.cells #[.bool false, .slice none 0 0] 24))
    rwa [World.size_alloc] at this
  have b3 : Blk (((w.alloc (.cells #[.bool bx, .slice Ax lx.length cx] 24)).alloc (.cells #[.bool yb, .slice Ay ly.length cy] 24)).alloc (.cells #[.bool false, .slice none 0 0] 24)) (w.heap.size + 1 + 1) 24 #[.bool false, .slice none 0 0] := by
    have := Blk.new ((w.alloc (.cells #[.bool bx, .slice Ax lx.length cx] 24)).alloc (.cells #[.bool yb, .slice Ay ly.length cy] 24)) 24 #[.bool false, .slice none 0 0]
    rwa [World.size_alloc, World.size_alloc] at this
  have HXM := Lib.hid (And.intro (sx.below hk0) ux)
  have HYM := Lib.hid (And.intro (sy.below hk0) uy)
  have HC := Lib.hid (And.intro hxc hyc)
  have HBX := Lib.hid hbx
  have HBY := Lib.hid hby
  clear hx hy sx sy ux uy hxc hyc hbx hby
  have hbb : (bx = yb ∧ (bx == yb) = true) ∨ (bx ≠ yb ∧ (bx == yb) = false) := by
    cases bx <;> cases yb <;> simp
  rcases hbb with ⟨hb1, hb2⟩ | ⟨hb1, hb2⟩
  · have HRES : Hid (x + y = sgn bx (x.natAbs + y.natAbs)) := Lib.hid (by have := add_same x y (by rw [← HBX.out, ← HBY.out]; exact hb1); rwa [← HBX.out] at this)
    subst hb1
    clear hb2
    go_enter Try.func20, Try.ntmps20
    go_wp2_with fail
    generalize (((w.alloc (.cells #[.bool bx, .slice Ax lx.length cx] 24)).alloc (.cells #[.bool bx, .slice Ay ly.length cy] 24)).alloc (.cells #[.bool false, .slice none 0 0] 24)) = W at *
    have c1 : W.cell? ⟨w.heap.size, 0, none⟩ = some (.bool bx) := b1.cell 0
    have c2 : W.cell? ⟨w.heap.size, 1, none⟩ = some (.slice Ax lx.length cx) := b1.cell 1
    have c3 : W.cell? ⟨w.heap.size + 1, 0, none⟩ = some (.bool bx) := b2.cell 0
    have c4 : W.cell? ⟨w.heap.size + 1, 1, none⟩ = some (.slice Ay ly.length cy) := b2.cell 1
    have l1 := b1.lt
    have l2 := b2.lt
    have l3 := b3.lt
    have B3 := Lib.hid b3
    have HK0 := Lib.hid hk0
    clear b1 b2 b3 hk0
    have KEEP : Hid (∀ X : World, Kept W X → X.cell? ⟨w.heap.size, 0, none⟩ = some (.bool bx) ∧ X.cell? ⟨w.heap.size, 1, none⟩ = some (.slice Ax lx.length cx) ∧ X.cell? ⟨w.heap.size + 1, 0, none⟩ = some (.bool bx) ∧ X.cell? ⟨w.heap.size + 1, 1, none⟩ = some (.slice Ay ly.length cy)) := Lib.hid fun X h =>
      ⟨(h.cell l1).trans c1, (h.cell l1).trans c2, (h.cell l2).trans c3, (h.cell l2).trans c4⟩
    have KEEP2 : Hid (∀ (X : World) (cs : Array Value), Kept W X → (X.setRow (w.heap.size + 1 + 1) cs).cell? ⟨w.heap.size, 0, none⟩ = some (.bool bx) ∧ (X.setRow (w.heap.size + 1 + 1) cs).cell? ⟨w.heap.size, 1, none⟩ = some (.slice Ax lx.length cx) ∧ (X.setRow (w.heap.size + 1 + 1) cs).cell? ⟨w.heap.size + 1, 0, none⟩ = some (.bool bx) ∧ (X.setRow (w.heap.size + 1 + 1) cs).cell? ⟨w.heap.size + 1, 1, none⟩ = some (.slice Ay ly.length cy)) := Lib.hid fun X cs h =>
      ⟨(cell_setRow_other _ _ _ _ (by simp only; omega)).trans (KEEP.out X h).1, (cell_setRow_other _ _ _ _ (by simp only; omega)).trans (KEEP.out X h).2.1, (cell_setRow_other _ _ _ _ (by simp only; omega)).trans (KEEP.out X h).2.2.1, (cell_setRow_other _ _ _ _ (by simp only; omega)).trans (KEEP.out X h).2.2.2⟩
    have HM : Hid (∀ X : World, Kept W X → Calls Try.prog 45 #[.slice Ax lx.length cx, .slice Ay ly.length cy] X (RetMag X (x.natAbs + y.natAbs))) := Lib.hid fun X h => by
      have := sum_any Ax Ay cx cy lx ly (by have := HXM.out.2.len HC.out.1; omega) (by have := HYM.out.2.len HC.out.2; omega) HXM.out.2.lt HYM.out.2.lt X (HXM.out.1.below h) (HYM.out.1.below h)
      rwa [HXM.out.2.num, HYM.out.2.num] at this
    have HOF : Hid (∀ (X : World) (A : Option Addr) (l : List Nat) (c : Nat), Sl X A c (by8 l) → BE l (x.natAbs + y.natAbs) → Calls Try.prog 8 #[.bool bx, .slice A l.length c] X (RetSI X (x + y))) := Lib.hid fun X A l c h1 h2 => by
      have := Of_any bx A c l (Nat.le_trans (mag_len2 h2 (by have := HC.out; omega)) (by decide)) h2.lt X h1
      have e : Num.le 256 l.reverse = x.natAbs + y.natAbs := h2.2
      rw [e] at this
      rw [HRES.out]
      exact this
    go_region_held3 (fun X : World => X.cell? ⟨w.heap.size, 0, none⟩ = some (.bool bx) ∧ X.cell? ⟨w.heap.size, 1, none⟩ = some (.slice Ax lx.length cx) ∧ X.cell? ⟨w.heap.size + 1, 0, none⟩ = some (.bool bx) ∧ X.cell? ⟨w.heap.size + 1, 1, none⟩ = some (.slice Ay ly.length cy))
      (first
        | exact KEEP2.out _ _ hk5
        | exact KEEP.out _ (by go_grown))
      (first
        | (go_at_call 45
           (with_reducible refine Calls.mono (HM.out _ ?_) ?_)
           · go_grown
           rintro e w4 ⟨A4, c4, l4, rfl, q1, q2, q3, hk4'⟩
           have hk4 : Kept W w4 := Below.trans (by go_grown) (hk4'.mono (by go_size))
           have hz4 := hk4.size
           have HQ4 := Lib.hid (And.intro q1 q2)
           clear q1 q2 q3 hk4')
        | (go_at_call 8
           (with_reducible refine Calls.mono (HOF.out _ A4 l4 c4 ?_ ?_) ?_)
           · exact HQ4.out.1
           · exact HQ4.out.2
           rintro e w5 ⟨v5, rfl, hv5, hk5'⟩
           have hk5 : Kept W w5 := Below.trans (by go_grown) (hk5'.mono (by go_size))
           have HV5 := Lib.hid (hv5.mono (B' := W.heap.size) (by go_size))
           obtain ⟨b5, A5, n5, c5, rfl⟩ := hv5.two
           have HB3 := Lib.hid (B3.out.below hk5)
           have hst := run_storeVar_row (P := Try.prog) w5 (w.heap.size + 1 + 1) 24 24 _ #[.bool b5, .slice A5 n5 c5] HB3.out info_SI rfl (by simp [Value.oneCell'])
           clear hv5 hk5'
           simp [go_sem] at hst))
    go_wp2_with fail
    refine bodyPost_blk (cs := #[.bool b5, .slice A5 n5 c5]) rfl rfl (setRow_heap _ _ _ _ _ _ HB3.out) Try.underlying24 rfl (by exact info_SI) rfl ?_
    exact ⟨_, rfl, (HV5.out.setRow (by omega) _).mono (by omega), below_setRow (HK0.out.trans hk5) (by omega) _⟩
  · have hb3 : yb = !bx := by cases bx <;> cases yb <;> simp_all
    have hne : decide (x < 0) ≠ decide (y < 0) := by rw [← HBX.out, ← HBY.out]; exact hb1
    have HNE := Lib.hid hne
    clear hb1 hne hb2
    subst hb3
    go_enter Try.func20, Try.ntmps20
    go_wp2_with fail
    generalize (((w.alloc (.cells #[.bool bx, .slice Ax lx.length cx] 24)).alloc (.cells #[.bool (!bx), .slice Ay ly.length cy] 24)).alloc (.cells #[.bool false, .slice none 0 0] 24)) = W at *
    have c1 : W.cell? ⟨w.heap.size, 0, none⟩ = some (.bool bx) := b1.cell 0
    have c2 : W.cell? ⟨w.heap.size, 1, none⟩ = some (.slice Ax lx.length cx) := b1.cell 1
    have c3 : W.cell? ⟨w.heap.size + 1, 0, none⟩ = some (.bool (!bx)) := b2.cell 0
    have c4 : W.cell? ⟨w.heap.size + 1, 1, none⟩ = some (.slice Ay ly.length cy) := b2.cell 1
    have l1 := b1.lt
    have l2 := b2.lt
    have l3 := b3.lt
    have B3 := Lib.hid b3
    have HK0 := Lib.hid hk0
    clear b1 b2 b3 hk0
    have KEEP : Hid (∀ X : World, Kept W X → X.cell? ⟨w.heap.size, 0, none⟩ = some (.bool bx) ∧ X.cell? ⟨w.heap.size, 1, none⟩ = some (.slice Ax lx.length cx) ∧ X.cell? ⟨w.heap.size + 1, 0, none⟩ = some (.bool (!bx)) ∧ X.cell? ⟨w.heap.size + 1, 1, none⟩ = some (.slice Ay ly.length cy)) := Lib.hid fun X h =>
      ⟨(h.cell l1).trans c1, (h.cell l1).trans c2, (h.cell l2).trans c3, (h.cell l2).trans c4⟩
    have KEEP2 : Hid (∀ (X : World) (cs : Array Value), Kept W X → (X.setRow (w.heap.size + 1 + 1) cs).cell? ⟨w.heap.size, 0, none⟩ = some (.bool bx) ∧ (X.setRow (w.heap.size + 1 + 1) cs).cell? ⟨w.heap.size, 1, none⟩ = some (.slice Ax lx.length cx) ∧ (X.setRow (w.heap.size + 1 + 1) cs).cell? ⟨w.heap.size + 1, 0, none⟩ = some (.bool (!bx)) ∧ (X.setRow (w.heap.size + 1 + 1) cs).cell? ⟨w.heap.size + 1, 1, none⟩ = some (.slice Ay ly.length cy)) := Lib.hid fun X cs h =>
      ⟨(cell_setRow_other _ _ _ _ (by simp only; omega)).trans (KEEP.out X h).1, (cell_setRow_other _ _ _ _ (by simp only; omega)).trans (KEEP.out X h).2.1, (cell_setRow_other _ _ _ _ (by simp only; omega)).trans (KEEP.out X h).2.2.1, (cell_setRow_other _ _ _ _ (by simp only; omega)).trans (KEEP.out X h).2.2.2⟩
    refine (order_any Ax Ay cx cy lx ly _ _ HXM.out.2 HYM.out.2 W HXM.out.1 HYM.out.1).mono ?_
    by_cases hge : y.natAbs ≤ x.natAbs
    · have HRES : Hid (x + y = sgn bx (x.natAbs - y.natAbs)) := Lib.hid (by have := add_ge x y HNE.out hge; rwa [← HBX.out] at this)
      have hog := ord_ge' hge
      generalize ord x.natAbs y.natAbs = o at *
      rintro e w3 ⟨rfl, hk3⟩
      have HXM' := Lib.hid (And.intro (HXM.out.1.below hk3) HXM.out.2)
      have HYM' := Lib.hid (And.intro (HYM.out.1.below hk3) HYM.out.2)
      have B3' := Lib.hid (B3.out.below hk3)
      have HK' : Hid (Kept w w3) := Lib.hid (HK0.out.trans hk3)
      obtain ⟨d1, d2, d3, d4⟩ := KEEP.out _ hk3
      have hs3 := hk3.size
      clear HXM HYM B3 HK0 KEEP KEEP2 c1 c2 c3 c4 hk3
      have l1 : w.heap.size < w3.heap.size := by omega
      have l2 : w.heap.size + 1 < w3.heap.size := by omega
      have l3 : w.heap.size + 1 + 1 < w3.heap.size := by omega
      clear hs3
      obtain ⟨HXM, HYM, B3, HK0⟩ : (_ ∧ _ ∧ _ ∧ _) := ⟨HXM', HYM', B3', HK'⟩
      obtain ⟨c1, c2, c3, c4⟩ : (_ ∧ _ ∧ _ ∧ _) := ⟨d1, d2, d3, d4⟩
      clear HXM' HYM' B3' HK' d1 d2 d3 d4
      have KEEP : Hid (∀ X : World, Kept w3 X → X.cell? ⟨w.heap.size, 0, none⟩ = some (.bool bx) ∧ X.cell? ⟨w.heap.size, 1, none⟩ = some (.slice Ax lx.length cx) ∧ X.cell? ⟨w.heap.size + 1, 0, none⟩ = some (.bool (!bx)) ∧ X.cell? ⟨w.heap.size + 1, 1, none⟩ = some (.slice Ay ly.length cy)) := Lib.hid fun X h =>
        ⟨(h.cell l1).trans c1, (h.cell l1).trans c2, (h.cell l2).trans c3, (h.cell l2).trans c4⟩
      have KEEP2 : Hid (∀ (X : World) (cs : Array Value), Kept w3 X → (X.setRow (w.heap.size + 1 + 1) cs).cell? ⟨w.heap.size, 0, none⟩ = some (.bool bx) ∧ (X.setRow (w.heap.size + 1 + 1) cs).cell? ⟨w.heap.size, 1, none⟩ = some (.slice Ax lx.length cx) ∧ (X.setRow (w.heap.size + 1 + 1) cs).cell? ⟨w.heap.size + 1, 0, none⟩ = some (.bool (!bx)) ∧ (X.setRow (w.heap.size + 1 + 1) cs).cell? ⟨w.heap.size + 1, 1, none⟩ = some (.slice Ay ly.length cy)) := Lib.hid fun X cs h =>
        ⟨(cell_setRow_other _ _ _ _ (by simp only; omega)).trans (KEEP.out X h).1, (cell_setRow_other _ _ _ _ (by simp only; omega)).trans (KEEP.out X h).2.1, (cell_setRow_other _ _ _ _ (by simp only; omega)).trans (KEEP.out X h).2.2.1, (cell_setRow_other _ _ _ _ (by simp only; omega)).trans (KEEP.out X h).2.2.2⟩
      have HM : Hid (∀ X : World, Kept w3 X → Calls Try.prog 46 #[.slice Ax lx.length cx, .slice Ay ly.length cy] X (RetMag X (x.natAbs - y.natAbs))) := Lib.hid fun X h => by
        have := less_any Ax Ay cx cy lx ly (by have := HXM.out.2.len HC.out.1; omega) (by have := HYM.out.2.len HC.out.2; omega) HXM.out.2.lt HYM.out.2.lt (by rw [HXM.out.2.num, HYM.out.2.num]; exact hge) X (HXM.out.1.below h) (HYM.out.1.below h)
        rwa [HXM.out.2.num, HYM.out.2.num] at this
      have HOF : Hid (∀ (X : World) (A : Option Addr) (l : List Nat) (c : Nat), Sl X A c (by8 l) → BE l (x.natAbs - y.natAbs) → Calls Try.prog 8 #[.bool bx, .slice A l.length c] X (RetSI X (x + y))) := Lib.hid fun X A l c h1 h2 => by
        have := Of_any bx A c l (Nat.le_trans (mag_len2 h2 (by have := HC.out; omega)) (by decide)) h2.lt X h1
        have e : Num.le 256 l.reverse = x.natAbs - y.natAbs := h2.2
        rw [e] at this
        rw [HRES.out]
        exact this
      go_wp2_with fail
      go_region_held3 (fun X : World => X.cell? ⟨w.heap.size, 0, none⟩ = some (.bool bx) ∧ X.cell? ⟨w.heap.size, 1, none⟩ = some (.slice Ax lx.length cx) ∧ X.cell? ⟨w.heap.size + 1, 0, none⟩ = some (.bool (!bx)) ∧ X.cell? ⟨w.heap.size + 1, 1, none⟩ = some (.slice Ay ly.length cy))
        (first
          | exact KEEP2.out _ _ hk5
          | exact KEEP.out _ (by go_grown))
        (first
          | (go_at_call 46
             (with_reducible refine Calls.mono (HM.out _ ?_) ?_)
             · go_grown
             rintro e w4 ⟨A4, c4, l4, rfl, q1, q2, q3, hk4'⟩
             have hk4 : Kept w3 w4 := Below.trans (by go_grown) (hk4'.mono (by go_size))
             have hz4 := hk4.size
             have HQ4 := Lib.hid (And.intro q1 q2)
             clear q1 q2 q3 hk4')
          | (go_at_call 8
             (with_reducible refine Calls.mono (HOF.out _ A4 l4 c4 ?_ ?_) ?_)
             · exact HQ4.out.1
             · exact HQ4.out.2
             rintro e w5 ⟨v5, rfl, hv5, hk5'⟩
             have hk5 : Kept w3 w5 := Below.trans (by go_grown) (hk5'.mono (by go_size))
             have HV5 := Lib.hid (hv5.mono (B' := w3.heap.size) (by go_size))
             obtain ⟨b5, A5, n5, c5, rfl⟩ := hv5.two
             have HB3 := Lib.hid (B3.out.below hk5)
             have hst := run_storeVar_row (P := Try.prog) w5 (w.heap.size + 1 + 1) 24 24 _ #[.bool b5, .slice A5 n5 c5] HB3.out info_SI rfl (by simp [Value.oneCell'])
             clear hv5 hk5'
             simp [go_sem] at hst))
      go_wp2_with fail
      refine bodyPost_blk (cs := #[.bool b5, .slice A5 n5 c5]) rfl rfl (setRow_heap _ _ _ _ _ _ HB3.out) Try.underlying24 rfl (by exact info_SI) rfl ?_
      exact ⟨_, rfl, (HV5.out.setRow (by omega) _).mono (by omega), below_setRow (HK0.out.trans hk5) (by omega) _⟩
    · have hlt : x.natAbs < y.natAbs := by omega
      rw [ord_lt hlt]
      have HRES : Hid (x + y = sgn (!bx) (y.natAbs - x.natAbs)) := Lib.hid (by have := add_ge y x (fun e => HNE.out e.symm) (by omega); rw [← HBY.out] at this; rw [Int.add_comm]; exact this)
      rintro e w3 ⟨rfl, hk3⟩
      have HXM' := Lib.hid (And.intro (HXM.out.1.below hk3) HXM.out.2)
      have HYM' := Lib.hid (And.intro (HYM.out.1.below hk3) HYM.out.2)
      have B3' := Lib.hid (B3.out.below hk3)
      have HK' : Hid (Kept w w3) := Lib.hid (HK0.out.trans hk3)
      obtain ⟨d1, d2, d3, d4⟩ := KEEP.out _ hk3
      have hs3 := hk3.size
      clear HXM HYM B3 HK0 KEEP KEEP2 c1 c2 c3 c4 hk3
      have l1 : w.heap.size < w3.heap.size := by omega
      have l2 : w.heap.size + 1 < w3.heap.size := by omega
      have l3 : w.heap.size + 1 + 1 < w3.heap.size := by omega
      clear hs3
      obtain ⟨HXM, HYM, B3, HK0⟩ : (_ ∧ _ ∧ _ ∧ _) := ⟨HXM', HYM', B3', HK'⟩
      obtain ⟨c1, c2, c3, c4⟩ : (_ ∧ _ ∧ _ ∧ _) := ⟨d1, d2, d3, d4⟩
      clear HXM' HYM' B3' HK' d1 d2 d3 d4
      have KEEP : Hid (∀ X : World, Kept w3 X → X.cell? ⟨w.heap.size, 0, none⟩ = some (.bool bx) ∧ X.cell? ⟨w.heap.size, 1, none⟩ = some (.slice Ax lx.length cx) ∧ X.cell? ⟨w.heap.size + 1, 0, none⟩ = some (.bool (!bx)) ∧ X.cell? ⟨w.heap.size + 1, 1, none⟩ = some (.slice Ay ly.length cy)) := Lib.hid fun X h =>
        ⟨(h.cell l1).trans c1, (h.cell l1).trans c2, (h.cell l2).trans c3, (h.cell l2).trans c4⟩
      have KEEP2 : Hid (∀ (X : World) (cs : Array Value), Kept w3 X → (X.setRow (w.heap.size + 1 + 1) cs).cell? ⟨w.heap.size, 0, none⟩ = some (.bool bx) ∧ (X.setRow (w.heap.size + 1 + 1) cs).cell? ⟨w.heap.size, 1, none⟩ = some (.slice Ax lx.length cx) ∧ (X.setRow (w.heap.size + 1 + 1) cs).cell? ⟨w.heap.size + 1, 0, none⟩ = some (.bool (!bx)) ∧ (X.setRow (w.heap.size + 1 + 1) cs).cell? ⟨w.heap.size + 1, 1, none⟩ = some (.slice Ay ly.length cy)) := Lib.hid fun X cs h =>
        ⟨(cell_setRow_other _ _ _ _ (by simp only; omega)).trans (KEEP.out X h).1, (cell_setRow_other _ _ _ _ (by simp only; omega)).trans (KEEP.out X h).2.1, (cell_setRow_other _ _ _ _ (by simp only; omega)).trans (KEEP.out X h).2.2.1, (cell_setRow_other _ _ _ _ (by simp only; omega)).trans (KEEP.out X h).2.2.2⟩
      have HM : Hid (∀ X : World, Kept w3 X → Calls Try.prog 46 #[.slice Ay ly.length cy, .slice Ax lx.length cx] X (RetMag X (y.natAbs - x.natAbs))) := Lib.hid fun X h => by
        have := less_any Ay Ax cy cx ly lx (by have := HYM.out.2.len HC.out.2; omega) (by have := HXM.out.2.len HC.out.1; omega) HYM.out.2.lt HXM.out.2.lt (by rw [HYM.out.2.num, HXM.out.2.num]; exact Nat.le_of_lt hlt) X (HYM.out.1.below h) (HXM.out.1.below h)
        rwa [HYM.out.2.num, HXM.out.2.num] at this
      have HOF : Hid (∀ (X : World) (A : Option Addr) (l : List Nat) (c : Nat), Sl X A c (by8 l) → BE l (y.natAbs - x.natAbs) → Calls Try.prog 8 #[.bool (!bx), .slice A l.length c] X (RetSI X (x + y))) := Lib.hid fun X A l c h1 h2 => by
        have := Of_any (!bx) A c l (Nat.le_trans (mag_len2 h2 (by have := HC.out; omega)) (by decide)) h2.lt X h1
        have e : Num.le 256 l.reverse = y.natAbs - x.natAbs := h2.2
        rw [e] at this
        rw [HRES.out]
        exact this
      go_wp2_with fail
      go_region_held3 (fun X : World => X.cell? ⟨w.heap.size, 0, none⟩ = some (.bool bx) ∧ X.cell? ⟨w.heap.size, 1, none⟩ = some (.slice Ax lx.length cx) ∧ X.cell? ⟨w.heap.size + 1, 0, none⟩ = some (.bool (!bx)) ∧ X.cell? ⟨w.heap.size + 1, 1, none⟩ = some (.slice Ay ly.length cy))
        (first
          | exact KEEP2.out _ _ hk5
          | exact KEEP.out _ (by go_grown))
        (first
          | (go_at_call 46
             (with_reducible refine Calls.mono (HM.out _ ?_) ?_)
             · go_grown
             rintro e w4 ⟨A4, c4, l4, rfl, q1, q2, q3, hk4'⟩
             have hk4 : Kept w3 w4 := Below.trans (by go_grown) (hk4'.mono (by go_size))
             have hz4 := hk4.size
             have HQ4 := Lib.hid (And.intro q1 q2)
             clear q1 q2 q3 hk4')
          | (go_at_call 8
             (with_reducible refine Calls.mono (HOF.out _ A4 l4 c4 ?_ ?_) ?_)
             · exact HQ4.out.1
             · exact HQ4.out.2
             rintro e w5 ⟨v5, rfl, hv5, hk5'⟩
             have hk5 : Kept w3 w5 := Below.trans (by go_grown) (hk5'.mono (by go_size))
             have HV5 := Lib.hid (hv5.mono (B' := w3.heap.size) (by go_size))
             obtain ⟨b5, A5, n5, c5, rfl⟩ := hv5.two
             have HB3 := Lib.hid (B3.out.below hk5)
             have hst := run_storeVar_row (P := Try.prog) w5 (w.heap.size + 1 + 1) 24 24 _ #[.bool b5, .slice A5 n5 c5] HB3.out info_SI rfl (by simp [Value.oneCell'])
             clear hv5 hk5'
             simp [go_sem] at hst))
      go_wp2_with fail
      refine bodyPost_blk (cs := #[.bool b5, .slice A5 n5 c5]) rfl rfl (setRow_heap _ _ _ _ _ _ HB3.out) Try.underlying24 rfl (by exact info_SI) rfl ?_
      exact ⟨_, rfl, (HV5.out.setRow (by omega) _).mono (by omega), below_setRow (HK0.out.trans hk5) (by omega) _⟩
end Go.Proofs.Ytnheiigdgklbcaa
