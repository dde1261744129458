import Derived.Test.YtikjdibngkcpkaaDoorM4
import Derived.Defers
namespace Go.Proofs.YtikjdibngkcpkaaDoor
open Go.ChangeShapes Go.WideShapes Go.ChangeAt Go.RowKit
set_option linter.unusedVariables false
set_option maxRecDepth 100000 in
set_option maxHeartbeats 4000000 in
theorem natMul_ge (Ax Ay : Option Addr) (cx cy0 : Nat) (xs ys : List Nat) (Y : Nat) (hle : ys.length ≤ xs.length) (h3 : xs.length ≤ 39) (hdx : ∀ d ∈ xs, d < Num.B64) (hly : LW ys Y) (w : World) (hs : Sl w Ax cx (w64 xs)) (ht : Sl w Ay cy0 (w64 ys)) (hgl : w.cell? ⟨2, 0, none⟩ = some (.int .i64 40)) :
    Calls Tryd.prog 41 #[.slice none 0 0, .pointer none, .slice Ax xs.length cx, .slice Ay ys.length cy0] w (RetNat w (Num.le Num.B64 xs * Y)) := by
  have n1 : ¬ ((xs.length : Int) < (ys.length : Int)) := by omega
  have hcx := hs.cap
  have hcy := ht.cap
  rw [w64_len] at hcx hcy
  by_cases hy0 : ys.length = 0
  · have hys : ys = [] := List.length_eq_zero_iff.1 hy0
    subst hys
    have hY0 : Y = 0 := hly.2.symm
    have HY0 := Lib.hid hY0
    clear hs ht hgl hly hdx hY0
    have hnil : ((xs.length : Int) == 0) = ((xs.length : Int) == 0) := rfl
    by_cases hx0 : xs.length = 0
    · have hxs : xs = [] := List.length_eq_zero_iff.1 hx0
      subst hxs
      go_enter_defers Tryd.func41, Tryd.ntmps41
      go_wp2_with fail
      refine bodyPostD_ret rfl rfl ?_
      exact ⟨none, 0, [], rfl, Sl.nil _, (fun a h => by cases h), by rw [HY0.out]; exact ⟨Num.Can.nil _, rfl⟩, Below.refl _ _⟩
    · have n2 : ((xs.length : Int) == 0) = false := by rw [beq_eq_false_iff_ne]; omega
      have n3 : ¬ ((xs.length : Int) = 0) := by omega
      have n4 : ¬ (xs.length = 0) := hx0
      go_enter_defers Tryd.func41, Tryd.ntmps41
      go_wp2_with fail
      refine bodyPostD_ret rfl rfl ?_
      exact ⟨none, 0, [], rfl, Sl.nil _, (fun a h => by cases h), by rw [HY0.out, Nat.mul_zero]; exact ⟨Num.Can.nil _, rfl⟩, Below.refl _ _⟩
  · have n2 : ((xs.length : Int) == 0) = false := by rw [beq_eq_false_iff_ne]; omega
    have n3 : ((ys.length : Int) == 0) = false := by rw [beq_eq_false_iff_ne]; omega
    have n4 : ¬ ((xs.length : Int) = 0) := by omega
    have n5 : ¬ ((ys.length : Int) = 0) := by omega
    have n6 : ¬ (xs.length = 0) := by omega
    have n7 : ¬ (ys.length = 0) := by omega
    by_cases hy1 : ys.length = 1
    · obtain ⟨d, rfl⟩ : ∃ d, ys = [d] := List.length_eq_one_iff.1 hy1
      have hdB : d < Num.B64 := hly.1.1 d (by simp)
      have hYd : Y = d := by rw [← hly.2]; simp [Num.le]
      have hd0 : d ≠ 0 := by
        have h5 := Num.Can.pos Num.B64_pos hly.1 (by simp)
        rw [hly.2] at h5
        omega
      subst hYd
      obtain ⟨b, off, rfl, hc⟩ := ht.at_ (w64_ne (by simp))
      have c0 : w.cell? ⟨b, off, none⟩ = some (.int .u64 (Y : Int)) := by simpa using hc 0 _ (w64_get [Y] 0 (by simp))
      have HM := Lib.hid (mulAddWW_any Ax cx xs Y hd0 hdB (by omega) (by omega) hdx w hs)
      clear hs ht hc hly hdx hgl hd0 hdB hcx hcy
      go_enter_defers Tryd.func41, Tryd.ntmps41
      go_wp2_with fail
      refine (HM.out).mono ?_
      rintro e w1 ⟨A1, c1, ws, rfl, q⟩
      have Q := Lib.hid q
      clear q
      go_wp2_with fail
      refine bodyPostD_ret rfl rfl ?_
      exact ⟨A1, c1, ws, rfl, Q.out⟩
    · have n8 : ((ys.length : Int) == 1) = false := by rw [beq_eq_false_iff_ne]; omega
      have n9 : ¬ ((ys.length : Int) = 1) := by omega
      have n10 : (ys.length : Int) < 40 := by omega
      have hmk := fun W => make_nil (xs.length + ys.length) (by omega) W
      have ecast : ((xs.length + ys.length : Nat) : Int) = (xs.length : Int) + (ys.length : Int) := by omega
      have HS := Lib.hid hs
      have HT := Lib.hid ht
      have HGL := Lib.hid hgl
      have HDX := Lib.hid hdx
      have HLY := Lib.hid hly
      have hbx : ∀ b off, Ax = some ⟨b, off, none⟩ → b < w.heap.size := fun b off e => by
        obtain ⟨b', off', e', hc⟩ := hs.at_ (w64_ne (by omega))
        rw [e] at e'; injection e' with e'; injection e' with e1; subst e1
        exact block_lt_of_cell (hc 0 _ (w64_get xs 0 (by omega)))
      have hby : ∀ b off, Ay = some ⟨b, off, none⟩ → b < w.heap.size := fun b off e => by
        obtain ⟨b', off', e', hc⟩ := ht.at_ (w64_ne (by omega))
        rw [e] at e'; injection e' with e'; injection e' with e1; subst e1
        exact block_lt_of_cell (hc 0 _ (w64_get ys 0 (by omega)))
      have HBX := Lib.hid hbx
      have HBY := Lib.hid hby
      have HMK : Hid (∀ W : World, Calls Tryd.prog 35 #[.slice none 0 0, .int .i64 ((xs.length : Int) + (ys.length : Int))] W (MakeP W (xs.length + ys.length))) := Lib.hid fun W => by
        have := hmk W
        rwa [ecast] at this
      clear hs ht hgl hdx hly hbx hby hmk
      go_enter_defers Tryd.func41, Tryd.ntmps41
      go_wp2_with fail
      refine (alias_nil Ax xs.length cx w).mono ?_
      rintro e w1 ⟨rfl, m1, rfl⟩
      go_wp2_with fail
      refine (alias_nil Ay ys.length cy0 _).mono ?_
      rintro e w2 ⟨rfl, m2, rfl⟩
      have hkk : Kept w ((w.drewN m1).drewN m2) := below_drewN (below_drewN (Below.refl _ _) m1) m2
      have hsz := hkk.size
      generalize (w.drewN m1).drewN m2 = w2 at *
      go_wp2_with fail
      refine (HMK.out w2).mono ?_
      rintro e w3 (⟨h0, _⟩ | ⟨h0, cap, hc1, hc2, rfl, hrow, hbw⟩)
      · omega
      have hk3 : Kept w w3 := hkk.trans hbw
      have hgl3 : w3.cell? ⟨2, 0, none⟩ = some (.int .i64 40) := (hk3.cell (p := ⟨2, 0, none⟩) (block_lt_of_cell HGL.out)).trans HGL.out
      have HBM := Lib.hid (basicMul_any w2.heap.size cap Ax Ay cx cy0 xs ys (fun _ => .int .u64 0) (by omega) (by omega) hc1 (by omega) HDX.out HLY.out.1.1 w3 hrow (HS.out.below hk3) (HT.out.below hk3) (fun b off e => by have := HBX.out b off e; omega) (fun b off e => by have := HBY.out b off e; omega))
      have HK3 := Lib.hid hk3
      have HKB := Lib.hid hbw
      have hkk2 := hkk
      clear hrow hbw hk3 hkk
      go_wp2_with fail
      refine (HBM.out).mono ?_
      rintro e w4 ⟨rfl, hr4, hb4⟩
      have hX1 := Num.le_lt Num.B64 Num.B64_pos xs HDX.out
      have hY1 := Num.le_lt Num.B64 Num.B64_pos ys HLY.out.1.1
      rw [HLY.out.2] at hr4 hY1
      have hS : Num.le Num.B64 xs * Y < Num.B64 ^ (xs.length + ys.length) := by
        rw [Nat.pow_add]
        exact Nat.mul_lt_mul'' hX1 hY1
      have hk4 : Kept w2 w4 := Below.trans HKB.out hb4
      have hf4 : ∀ j, j < xs.length + ys.length → wv (Num.le Num.B64 xs * Y) (xs.length + ys.length) (fun _ => .int .u64 0) j = .int .u64 ((Num.dg Num.B64 (Num.le Num.B64 xs * Y) j : Nat) : Int) := fun j hj => by unfold wv; rw [if_pos hj]
      have hSl := ww_row hr4 hf4 hc1 (by unfold maxLen; omega)
      have hNO := norm_any (some ⟨w2.heap.size, 0, none⟩) cap (ww (Num.le Num.B64 xs * Y) (xs.length + ys.length)) (by simp [ww]; omega) _ hSl
      have hwl : (ww (Num.le Num.B64 xs * Y) (xs.length + ys.length)).length = xs.length + ys.length := by simp [ww]
      rw [hwl] at hNO
      have HRN := Lib.hid (RetNat.of_ww hr4 hf4 hc1 (by unfold maxLen; omega) hS hk4)
      have HNO := Lib.hid hNO
      have HKK := Lib.hid hkk2
      clear hSl hNO hr4 hb4 hf4 hwl hk4 hS hX1 hY1
      go_wp2_with fail
      refine (HNO.out).mono ?_
      rintro e w5 ⟨rfl, rfl⟩
      go_wp2_with fail
      refine bodyPostD_ret rfl rfl ?_
      obtain ⟨A5, c5, ws5, e5, q1, q2, q3, q4⟩ := HRN.out
      exact ⟨A5, c5, ws5, e5, q1, fun a ha => ⟨Nat.le_trans HKK.out.size (q2 a ha).1, (q2 a ha).2⟩, q3, HKK.out.trans q4⟩
theorem natMul_any (Ax Ay : Option Addr) (cx cy0 : Nat) (xs ys : List Nat) (X Y : Nat) (h3 : xs.length ≤ 39) (h4 : ys.length ≤ 39) (hlx : LW xs X) (hly : LW ys Y) (w : World) (hs : Sl w Ax cx (w64 xs)) (ht : Sl w Ay cy0 (w64 ys)) (hgl : w.cell? ⟨2, 0, none⟩ = some (.int .i64 40)) :
    Calls Tryd.prog 41 #[.slice none 0 0, .pointer none, .slice Ax xs.length cx, .slice Ay ys.length cy0] w (RetNat w (X * Y)) := by
  by_cases hle : ys.length ≤ xs.length
  · have := natMul_ge Ax Ay cx cy0 xs ys Y hle h3 hlx.1.1 hly w hs ht hgl
    rwa [hlx.2] at this
  · have HM := Lib.hid (natMul_ge Ay Ax cy0 cx ys xs X (by omega) h4 hly.1.1 hlx w ht hs hgl)
    rw [hly.2, Nat.mul_comm] at HM
    have n1 : (xs.length : Int) < (ys.length : Int) := by omega
    clear hs ht hgl hlx hly
    go_enter_defers Tryd.func41, Tryd.ntmps41
    go_wp2_with fail
    refine (HM.out).mono ?_
    rintro e w1 ⟨A1, c1, ws, rfl, q⟩
    have Q := Lib.hid q
    clear q
    go_wp2_with fail
    refine bodyPostD_ret rfl rfl ?_
    exact ⟨A1, c1, ws, rfl, Q.out⟩
end Go.Proofs.YtikjdibngkcpkaaDoor
