/- The reference's shift to the left. -/
import Derived.Test.YtoociokhldakbaaGreatO4
import Derived.Deep.RegionHeld3
namespace Go.Proofs.YtoociokhldakbaaGreat
open Go.ChangeShapes Go.WideShapes Go.ChangeAt Go.RowKit
set_option linter.unusedVariables false
theorem cap_100 (n : Nat) (h : n ≤ 1600) : 2 * 2 ^ n < Num.Cap := by
  have h1 : n + 1 < 8 * Num.capK := by unfold Num.capK; omega
  have h2 := Nat.pow_lt_pow_right (a := 2) (by omega) h1
  rw [Nat.pow_succ] at h2
  unfold Num.Cap
  rw [pow8]
  omega
set_option maxRecDepth 100000 in
set_option maxHeartbeats 4000000 in
theorem sLsh_any (b : Bool) (A : Option Addr) (n c : Nat) (z : Int) (q r : Nat) (hr : r < 8) (hq : 8 * q + r ≤ 1600) (hz : z.natAbs < Num.Cap) (w : World) (hv : SI w (.agg #[.bool b, .slice A n c]) z) :
    Calls Tryz.prog 72 #[.agg #[.bool b, .slice A n c], .int .i64 (8 * (q : Int) + (r : Int))] w (RetSI w (z * ((2 ^ (8 * q + r) : Nat) : Int))) := by
  have hk0 : Kept w ((w.alloc (.cells #[.bool b, .slice A n c] 65)).alloc (.cells #[.bool false, .slice none 0 0] 65)) := by go_grown
  have b1 : Blk ((w.alloc (.cells #[.bool b, .slice A n c] 65)).alloc (.cells #[.bool false, .slice none 0 0] 65)) w.heap.size 65 #[.bool b, .slice A n c] := (Blk.new w _ _).below ((Below.refl _ _).alloc (Nat.le_refl _) _)
  have b2 : Blk ((w.alloc (.cells #[.bool b, .slice A n c] 65)).alloc (.cells #[.bool false, .slice none 0 0] 65)) (w.heap.size + 1) 65 #[.bool false, .slice none 0 0] := by
    have := Blk.new (w.alloc (.cells #[.bool b, .slice A n c] 65)) 65 #[.bool false, .slice none 0 0]
    rwa [World.size_alloc] at this
  have hcap := cap_100 (8 * q + r) hq
  have h2p := Nat.two_pow_pos (8 * q + r)
  have HPW : Hid (∀ X, Calls Tryz.prog 77 #[.int .i64 (8 * (q : Int) + (r : Int))] X (RetSI X ((2 ^ (8 * q + r) : Nat) : Int))) := Lib.hid fun X => Power_any q r (by omega) hr X
  have HMU : Hid (∀ (X : World) (b1 : Bool) (A1 : Option Addr) (n1 c1 : Nat), SI X (.agg #[.bool b, .slice A n c]) z → SI X (.agg #[.bool b1, .slice A1 n1 c1]) ((2 ^ (8 * q + r) : Nat) : Int) → Calls Tryz.prog 76 #[.agg #[.bool b, .slice A n c], .agg #[.bool b1, .slice A1 n1 c1]] X (RetSI X (z * ((2 ^ (8 * q + r) : Nat) : Int)))) :=
    Lib.hid fun X b1 A1 n1 c1 h1 h2 => sMul_any b A n c z b1 A1 n1 c1 _ hz (by rw [Int.natAbs_natCast]; omega) X h1 h2
  have hzero : ((n : Int) == 0) = true → z * ((2 ^ (8 * q + r) : Nat) : Int) = 0 := fun h => by
    obtain ⟨hb, l, rfl, sv, uv⟩ := hv.parts
    have h0 : l.length = 0 := by simpa using h
    have hl : l = [] := List.eq_nil_of_length_eq_zero h0
    subst hl
    have : z.natAbs = 0 := by rw [← uv.2]; rfl
    rw [Int.natAbs_eq_zero.1 this, Int.zero_mul]
  have HX := Lib.hid (hv.below hk0)
  clear hv hz hcap h2p hq hr
  generalize z * ((2 ^ (8 * q + r) : Nat) : Int) = D at *
  generalize ((2 ^ (8 * q + r) : Nat) : Int) = P at *
  generalize 8 * (q : Int) + (r : Int) = sh at *
  have cZ := fun W => sZer_any b A n c W
  generalize hnz : ((n : Int) == 0) = nz at *
  have HZ := Lib.hid hzero
  have CZ := Lib.hid cZ
  clear hnz hzero cZ
  go_enter Tryz.func72, Tryz.ntmps72
  go_wp2_with fail
  generalize ((w.alloc (.cells #[.bool b, .slice A n c] 65)).alloc (.cells #[.bool false, .slice none 0 0] 65)) = W0 at *
  refine (CZ.out W0).mono ?_
  rintro e W ⟨rfl, hkz⟩
  have b1 := b1.below hkz
  have b2 := b2.below hkz
  have HX := Lib.hid (HX.out.below hkz)
  have hk0 : Kept w W := hk0.trans hkz
  cases nz
  · have c1 : W.cell? ⟨w.heap.size, 0, none⟩ = some (.bool b) := b1.cell 0
    have c2 : W.cell? ⟨w.heap.size, 1, none⟩ = some (.slice A n c) := b1.cell 1
    have l1 := b1.lt
    have l2 := b2.lt
    have B2 := Lib.hid b2
    have HK0 := Lib.hid hk0
    clear b1 b2 hk0 hkz
    have KEEP : Hid (∀ X : World, Kept W X → X.cell? ⟨w.heap.size, 0, none⟩ = some (.bool b) ∧ X.cell? ⟨w.heap.size, 1, none⟩ = some (.slice A n c)) := Lib.hid fun X h => ⟨(h.cell l1).trans c1, (h.cell l1).trans c2⟩
    have KEEP2 : Hid (∀ (X : World) (cs : Array Value), Kept W X → (X.setRow (w.heap.size + 1) cs).cell? ⟨w.heap.size, 0, none⟩ = some (.bool b) ∧ (X.setRow (w.heap.size + 1) cs).cell? ⟨w.heap.size, 1, none⟩ = some (.slice A n c)) := Lib.hid fun X cs h =>
      ⟨(cell_setRow_other _ _ _ _ (by simp only; omega)).trans (KEEP.out X h).1, (cell_setRow_other _ _ _ _ (by simp only; omega)).trans (KEEP.out X h).2⟩
    go_wp2_with fail
    go_region_held3 (fun X : World => X.cell? ⟨w.heap.size, 0, none⟩ = some (.bool b) ∧ X.cell? ⟨w.heap.size, 1, none⟩ = some (.slice A n c))
      (first
        | exact KEEP2.out _ _ hk5
        | exact KEEP.out _ (by go_grown))
      (first
        | (go_at_call 77
           (with_reducible refine Calls.mono (HPW.out _) ?_)
           rintro e w4 ⟨v4, rfl, hv4, hk4'⟩
           have hk4 : Kept W w4 := Below.trans (by go_grown) (hk4'.mono (by go_size))
           have hz4 := hk4.size
           have HV4 := Lib.hid hv4.toSI
           obtain ⟨b4, A4, n4, c4', rfl⟩ := hv4.two
           clear hv4 hk4')
        | (go_at_call 76
           (with_reducible refine Calls.mono (HMU.out _ b4 A4 n4 c4' ?_ ?_) ?_)
           · exact HX.out.below (by go_grown)
           · exact HV4.out.below (by go_grown)
           rintro e w5 ⟨v5, rfl, hv5, hk5'⟩
           have hk5 : Kept W w5 := Below.trans (by go_grown) (hk5'.mono (by go_size))
           have HV5 := Lib.hid (hv5.mono (B' := W.heap.size) (by go_size))
           obtain ⟨b5, A5, n5, c5, rfl⟩ := hv5.two
           have HB3 := Lib.hid (B2.out.below hk5)
           have hst := run_storeVar_row (P := Tryz.prog) w5 (w.heap.size + 1) 65 65 _ #[.bool b5, .slice A5 n5 c5] HB3.out info_SI rfl (by simp [Value.oneCell'])
           clear hv5 hk5'
           simp [go_sem] at hst))
    go_wp2_with fail
    refine bodyPost_blk (cs := #[.bool b5, .slice A5 n5 c5]) rfl rfl (setRow_heap _ _ _ _ _ _ HB3.out) Tryz.underlying65 rfl (by exact info_SI) rfl ?_
    exact ⟨_, rfl, (HV5.out.setRow (by omega) _).mono (by omega), below_setRow (HK0.out.trans hk5) (by omega) _⟩
  · have hD := HZ.out rfl
    subst hD
    have H := Lib.hid b2
    have l2 := b2.lt
    have HK0 := Lib.hid hk0
    clear b1 b2 hk0 hkz
    go_wp2_with (refine wpList_store_row rfl 65 (.tmp 4) (.tmp 7) rfl (w.heap.size + 1) _ rfl rfl 65 _ H.out info_SI rfl (by simp [Value.oneCell']) ?_)
    refine bodyPost_blk (cs := #[.bool false, .slice none 0 0]) rfl rfl (setRow_heap _ _ _ _ _ _ H.out) Tryz.underlying65 rfl (by exact info_SI) rfl ?_
    exact ⟨_, rfl, ⟨none, 0, [], rfl, Sl.nil _, BE.zero, fun b off e => by cases e⟩, below_setRow HK0.out (by omega) _⟩

end Go.Proofs.YtoociokhldakbaaGreat
