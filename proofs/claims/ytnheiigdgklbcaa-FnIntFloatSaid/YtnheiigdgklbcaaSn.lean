/- The reference's difference. -/
import Derived.Test.YtnheiigdgklbcaaSm
namespace Go.Proofs.Ytnheiigdgklbcaa
open Go.ChangeShapes Go.WideShapes Go.ChangeAt Go.RowKit
set_option linter.unusedVariables false
set_option maxRecDepth 100000 in
set_option maxHeartbeats 1000000 in
theorem sMinus_any (b : Bool) (A : Option Addr) (n c : Nat) (z : Int) (hz : z.natAbs < Num.Cap) (w : World) (hv : SI w (.agg #[.bool b, .slice A n c]) z) :
    Calls Try.prog 39 #[.agg #[.bool b, .slice A n c]] w (RetSI w (-z)) := by
  obtain ⟨hb, l, rfl, sv, uv⟩ := hv.parts
  have hk0 : Kept w ((w.alloc (.cells #[.bool b, .slice A l.length c] 24)).alloc (.cells #[.bool false, .slice none 0 0] 24)) := by go_grown
  have b2 : Blk ((w.alloc (.cells #[.bool b, .slice A l.length c] 24)).alloc (.cells #[.bool false, .slice none 0 0] 24)) (w.heap.size + 1) 24 #[.bool false, .slice none 0 0] := by
    have := Blk.new (w.alloc (.cells #[.bool b, .slice A l.length c] 24)) 24 #[.bool false, .slice none 0 0]
    rwa [World.size_alloc] at this
  have hof := fun b' => Of_any b' A c l (by have := uv.len hz; omega) uv.lt _ (sv.below hk0)
  have e : Num.le 256 l.reverse = z.natAbs := uv.2
  rw [e] at hof
  have hres : sgn (!b) z.natAbs = -z := by
    rw [hb]
    unfold sgn
    by_cases h : z < 0
    · simp [h]; omega
    · simp [h]; omega
  have HOF := Lib.hid (hof (!b))
  rw [hres] at HOF
  clear hof e hres sv uv hv hb
  go_enter Try.func39, Try.ntmps39
  go_wp2_with fail
  generalize ((w.alloc (.cells #[.bool b, .slice A l.length c] 24)).alloc (.cells #[.bool false, .slice none 0 0] 24)) = W at *
  refine (HOF.out).mono ?_
  rintro e w3 ⟨v3, rfl, hv3, hk3⟩
  have H := Lib.hid (b2.below hk3)
  have l2 := b2.lt
  have HV3 := Lib.hid hv3
  obtain ⟨b3, A3, n3, c3, rfl⟩ := hv3.two
  have HK3 : Hid (Kept w w3) := Lib.hid (Below.trans hk0 (hk3.mono hk0.size))
  clear hv3 hk3 b2 hk0
  go_wp2_with (refine wpList_store_row rfl 24 (.tmp 2) (.tmp 8) rfl (w.heap.size + 1) _ rfl rfl 24 _ H.out info_SI rfl (by simp [Value.oneCell']) ?_)
  refine bodyPost_blk (cs := #[.bool b3, .slice A3 n3 c3]) rfl rfl (setRow_heap _ _ _ _ _ _ H.out) Try.underlying24 rfl (by exact info_SI) rfl ?_
  exact ⟨_, rfl, (HV3.out.setRow (by omega) _).mono (by omega), below_setRow HK3.out (by omega) _⟩
set_option maxRecDepth 100000 in
set_option maxHeartbeats 2000000 in
theorem sSub_any (bx : Bool) (Ax : Option Addr) (nx cx : Nat) (x : Int) (yb : Bool) (Ay : Option Addr) (ny cy : Nat) (y : Int) (hxc : x.natAbs < Num.Cap) (hyc : y.natAbs < Num.Cap) (w : World) (hx : SI w (.agg #[.bool bx, .slice Ax nx cx]) x) (hy : SI w (.agg #[.bool yb, .slice Ay ny cy]) y) :
    Calls Try.prog 15 #[.agg #[.bool bx, .slice Ax nx cx], .agg #[.bool yb, .slice Ay ny cy]] w (RetSI w (x - y)) := by
  have hk0 : Kept w (((w.alloc (.cells #[.bool bx, .slice Ax nx cx] 24)).alloc (.cells #[.bool yb, .slice Ay ny cy] 24)).alloc (.cells #[.bool false, .slice none 0 0] 24)) := by go_grown
  have b1 : Blk (((w.alloc (.cells #[.bool bx, .slice Ax nx cx] 24)).alloc (.cells #[.bool yb, .slice Ay ny cy] 24)).alloc (.cells #[.bool false, .slice none 0 0] 24)) w.heap.size 24 #[.bool bx, .slice Ax nx cx] :=
    ((Blk.new w _ _).below ((Below.refl _ _).alloc (Nat.le_refl _) _)).below ((Below.refl _ _).alloc (Nat.le_refl _) _)
  have b2 : Blk (((w.alloc (.cells #[.bool bx, .slice Ax nx cx] 24)).alloc (.cells #[.bool yb, .slice Ay ny cy] 24)).alloc (.cells #[.bool false, .slice none 0 0] 24)) (w.heap.size + 1) 24 #[.bool yb, .slice Ay ny cy] := by
    have := (Blk.new (w.alloc (.cells #[.bool bx, .slice Ax nx cx] 24)) 24 #[.bool yb, .slice Ay ny cy]).below ((Below.refl _ _).alloc (Nat.le_refl _) (.cells #[.bool false, .slice none 0 0] 24))
    rwa [World.size_alloc] at this
  have b3 : Blk (((w.alloc (.cells #[.bool bx, .slice Ax nx cx] 24)).alloc (.cells #[.bool yb, .slice Ay ny cy] 24)).alloc (.cells #[.bool false, .slice none 0 0] 24)) (w.heap.size + 1 + 1) 24 #[.bool false, .slice none 0 0] := by
    have := Blk.new ((w.alloc (.cells #[.bool bx, .slice Ax nx cx] 24)).alloc (.cells #[.bool yb, .slice Ay ny cy] 24)) 24 #[.bool false, .slice none 0 0]
    rwa [World.size_alloc, World.size_alloc] at this
  have HX := Lib.hid (hx.below hk0)
  have HY := Lib.hid (hy.below hk0)
  have HMI : Hid (∀ X : World, SI X (.agg #[.bool yb, .slice Ay ny cy]) y → Calls Try.prog 39 #[.agg #[.bool yb, .slice Ay ny cy]] X (RetSI X (-y))) := Lib.hid fun X h => sMinus_any yb Ay ny cy y hyc X h
  have HAD : Hid (∀ (X : World) (b : Bool) (A : Option Addr) (n c : Nat), SI X (.agg #[.bool bx, .slice Ax nx cx]) x → SI X (.agg #[.bool b, .slice A n c]) (-y) → Calls Try.prog 20 #[.agg #[.bool bx, .slice Ax nx cx], .agg #[.bool b, .slice A n c]] X (RetSI X (x - y))) := Lib.hid fun X b A n c h1 h2 => by
    have := sAdd_any bx Ax nx cx x b A n c (-y) hxc (by rwa [Int.natAbs_neg]) X h1 h2
    rwa [show x + -y = x - y by omega] at this
  clear hx hy hxc hyc
  generalize x - y = D at *
  go_enter Try.func15, Try.ntmps15
  go_wp2_with fail
  generalize (((w.alloc (.cells #[.bool bx, .slice Ax nx cx] 24)).alloc (.cells #[.bool yb, .slice Ay ny cy] 24)).alloc (.cells #[.bool false, .slice none 0 0] 24)) = W at *
  have c1 : W.cell? ⟨w.heap.size, 0, none⟩ = some (.bool bx) := b1.cell 0
  have c2 : W.cell? ⟨w.heap.size, 1, none⟩ = some (.slice Ax nx cx) := b1.cell 1
  have c3 : W.cell? ⟨w.heap.size + 1, 0, none⟩ = some (.bool yb) := b2.cell 0
  have c4 : W.cell? ⟨w.heap.size + 1, 1, none⟩ = some (.slice Ay ny cy) := b2.cell 1
  have l1 := b1.lt
  have l2 := b2.lt
  have l3 := b3.lt
  have B3 := Lib.hid b3
  have HK0 := Lib.hid hk0
  clear b1 b2 b3 hk0
  have KEEP : Hid (∀ X : World, Kept W X → X.cell? ⟨w.heap.size, 0, none⟩ = some (.bool bx) ∧ X.cell? ⟨w.heap.size, 1, none⟩ = some (.slice Ax nx cx) ∧ X.cell? ⟨w.heap.size + 1, 0, none⟩ = some (.bool yb) ∧ X.cell? ⟨w.heap.size + 1, 1, none⟩ = some (.slice Ay ny cy)) := Lib.hid fun X h =>
    ⟨(h.cell l1).trans c1, (h.cell l1).trans c2, (h.cell l2).trans c3, (h.cell l2).trans c4⟩
  have KEEP2 : Hid (∀ (X : World) (cs : Array Value), Kept W X → (X.setRow (w.heap.size + 1 + 1) cs).cell? ⟨w.heap.size, 0, none⟩ = some (.bool bx) ∧ (X.setRow (w.heap.size + 1 + 1) cs).cell? ⟨w.heap.size, 1, none⟩ = some (.slice Ax nx cx) ∧ (X.setRow (w.heap.size + 1 + 1) cs).cell? ⟨w.heap.size + 1, 0, none⟩ = some (.bool yb) ∧ (X.setRow (w.heap.size + 1 + 1) cs).cell? ⟨w.heap.size + 1, 1, none⟩ = some (.slice Ay ny cy)) := Lib.hid fun X cs h =>
    ⟨(cell_setRow_other _ _ _ _ (by simp only; omega)).trans (KEEP.out X h).1, (cell_setRow_other _ _ _ _ (by simp only; omega)).trans (KEEP.out X h).2.1, (cell_setRow_other _ _ _ _ (by simp only; omega)).trans (KEEP.out X h).2.2.1, (cell_setRow_other _ _ _ _ (by simp only; omega)).trans (KEEP.out X h).2.2.2⟩
  go_region_held3 (fun X : World => X.cell? ⟨w.heap.size, 0, none⟩ = some (.bool bx) ∧ X.cell? ⟨w.heap.size, 1, none⟩ = some (.slice Ax nx cx) ∧ X.cell? ⟨w.heap.size + 1, 0, none⟩ = some (.bool yb) ∧ X.cell? ⟨w.heap.size + 1, 1, none⟩ = some (.slice Ay ny cy))
    (first
      | exact KEEP2.out _ _ hk5
      | exact KEEP.out _ (by go_grown))
    (first
      | (go_at_call 39
         (with_reducible refine Calls.mono (HMI.out _ ?_) ?_)
         · exact HY.out.below (by go_grown)
         rintro e w4 ⟨v4, rfl, hv4, hk4'⟩
         have hk4 : Kept W w4 := Below.trans (by go_grown) (hk4'.mono (by go_size))
         have hz4 := hk4.size
         have HV4 := Lib.hid hv4.toSI
         obtain ⟨b4, A4, n4, c4', rfl⟩ := hv4.two
         clear hv4 hk4')
      | (go_at_call 20
         (with_reducible refine Calls.mono (HAD.out _ b4 A4 n4 c4' ?_ ?_) ?_)
         · exact HX.out.below (by go_grown)
         · exact HV4.out.below (by go_grown)
         rintro e w5 ⟨v5, rfl, hv5, hk5'⟩
         have hk5 : Kept W w5 := Below.trans (by go_grown) (hk5'.mono (by go_size))
         have HV5 := Lib.hid (hv5.mono (B' := W.heap.size) (by go_size))
         obtain ⟨b5, A5, n5, c5, rfl⟩ := hv5.two
         have HB3 := Lib.hid (B3.out.below hk5)
         have hst := run_storeVar_row (P := Try.prog) w5 (w.heap.size + 1 + 1) 24 24 _ #[.bool b5, .slice A5 n5 c5] HB3.out info_SI rfl (by simp [Value.oneCell'])
         clear hv5 hk5'
         simp [go_sem] at hst))
  go_wp2_with fail
  refine bodyPost_blk (cs := #[.bool b5, .slice A5 n5 c5]) rfl rfl (setRow_heap _ _ _ _ _ _ HB3.out) Try.underlying24 rfl (by exact info_SI) rfl ?_
  exact ⟨_, rfl, (HV5.out.setRow (by omega) _).mono (by omega), below_setRow (HK0.out.trans hk5) (by omega) _⟩
theorem one_cap : (1 : Int).natAbs < Num.Cap := by
  show 1 < 256 ^ Num.capK
  exact Nat.lt_of_lt_of_le (show 1 < 256 ^ 1 by decide) (Nat.pow_le_pow_right (by decide) (show 1 ≤ Num.capK by unfold Num.capK; decide))
end Go.Proofs.Ytnheiigdgklbcaa
