/- Natural numbers taken away. -/
import Derived.Test.YtamocmelhnmkeaaGreatW5
namespace Go.Proofs.YtamocmelhnmkeaaGreat
open Go.ChangeShapes Go.WideShapes Go.ChangeAt Go.RowKit
set_option linter.unusedVariables false
theorem sub_hi (D Y n m : Nat) (hn : n < m) (hX : D + Y < Num.B64 ^ m) (hY : Y < Num.B64 ^ n) :
    (D + Y) / Num.B64 ^ n = D / Num.B64 ^ n + Num.cy Num.B64 D Y n ∧ Num.cy Num.B64 (D / Num.B64 ^ n) (Num.cy Num.B64 D Y n) (m - n) = 0 := by
  have h := add_div_cy Num.B64_pos D Y n
  rw [Nat.div_eq_of_lt hY, Nat.add_zero, Nat.add_comm (Num.cy Num.B64 D Y n)] at h
  refine ⟨h, Num.cy_last _ _ _ ?_⟩
  rw [← h, Nat.div_lt_iff_lt_mul (Nat.pow_pos Num.B64_pos), ← Nat.pow_add, show m - n + n = m by omega]
  exact hX
set_option maxRecDepth 100000 in
set_option maxHeartbeats 4000000 in
theorem natSub_core (Ax Ay : Option Addr) (cx cy0 : Nat) (xs ys : List Nat) (D : Nat) (hDY : Num.le Num.B64 xs = D + Num.le Num.B64 ys) (h1 : 0 < ys.length) (h2 : ys.length ≤ xs.length) (h3 : xs.length ≤ 100000) (hdx : ∀ d ∈ xs, d < Num.B64) (hdy : ∀ d ∈ ys, d < Num.B64) (w : World) (hs : Sl w Ax cx (w64 xs)) (ht : Sl w Ay cy0 (w64 ys)) :
    Calls Tryz.prog 112 #[.slice none 0 0, .slice Ax xs.length cx, .slice Ay ys.length cy0] w (RetNat w D) := by
  have hcx := hs.cap
  have hcy := ht.cap
  rw [w64_len] at hcx hcy
  have hmk := make_nil xs.length (by omega) w
  have HDY := Lib.hid hDY
  have HMK := Lib.hid hmk
  have HS := Lib.hid (And.intro hs hdx)
  have HT := Lib.hid (And.intro ht hdy)
  have hnefx : ∀ b off, Ax = some ⟨b, off, none⟩ → b < w.heap.size := fun b off e => by
    obtain ⟨b', off', e', hc⟩ := hs.at_ (w64_ne (by omega))
    rw [e] at e'; injection e' with e'; injection e' with e1; subst e1
    exact block_lt_of_cell (hc 0 _ (w64_get xs 0 (by omega)))
  have hnefy : ∀ b off, Ay = some ⟨b, off, none⟩ → b < w.heap.size := fun b off e => by
    obtain ⟨b', off', e', hc⟩ := ht.at_ (w64_ne h1)
    rw [e] at e'; injection e' with e'; injection e' with e1; subst e1
    exact block_lt_of_cell (hc 0 _ (w64_get ys 0 h1))
  have HFX := Lib.hid hnefx
  have HFY := Lib.hid hnefy
  have hXb := Num.le_lt Num.B64 Num.B64_pos xs hdx
  have hYb := Num.le_lt Num.B64 Num.B64_pos ys hdy
  have hdrop := le_drop Num.B64 Num.B64_pos xs hdx ys.length
  have HXY : Hid (Num.le Num.B64 xs < Num.B64 ^ xs.length ∧ Num.le Num.B64 ys < Num.B64 ^ ys.length ∧ Num.le Num.B64 (xs.drop ys.length) = Num.le Num.B64 xs / Num.B64 ^ ys.length) := Lib.hid ⟨hXb, hYb, hdrop⟩
  have n1 : ¬ ((xs.length : Int) < (ys.length : Int)) := by omega
  have n1' : ¬ xs.length < ys.length := by omega
  have n2 : ((xs.length : Int) == 0) = false := by rw [beq_eq_false_iff_ne]; omega
  have n3 : ((ys.length : Int) == 0) = false := by rw [beq_eq_false_iff_ne]; omega
  have hsy : ∀ wx : World, (Instr.slice 112 (.slice Ay ys.length cy0) none (some (.int .i64 (ys.length : Int))) none).run Tryz.prog wx = .ok (.slice Ay ys.length cy0) wx := fun wx => run_hi98 Ay ys.length cy0 ys.length hcy wx
  have hsx : ∀ wx : World, (Instr.slice 112 (.slice Ax xs.length cx) none (some (.int .i64 (ys.length : Int))) none).run Tryz.prog wx = .ok (.slice Ax ys.length cx) wx := fun wx => run_hi98 Ax xs.length cx ys.length (by omega) wx
  clear hmk hDY hs ht hnefx hnefy hdx hdy hXb hYb hdrop
  go_enter Tryz.func112, Tryz.ntmps112
  go_wp2_with fail
  refine (HMK.out).mono ?_
  rintro e w1 (⟨h0, _⟩ | ⟨h0, cap, hc1, hc2, rfl, hrow, hbw⟩)
  · omega
  have hsz : ∀ wx : World, (Instr.slice 112 (.slice (some ⟨w.heap.size, 0, none⟩) xs.length cap) none (some (.int .i64 (ys.length : Int))) none).run Tryz.prog wx = .ok (.slice (some ⟨w.heap.size, 0, none⟩) ys.length cap) wx := fun wx => run_hi98 _ xs.length cap ys.length (by omega) wx
  have HROW := Lib.hid hrow
  have HBW := Lib.hid hbw
  have HADD : Hid (∀ W : World, W.heap = w1.heap → Kept w W → Calls Tryz.prog 124 #[.slice (some ⟨w.heap.size, 0, none⟩) ys.length cap, .slice Ax ys.length cx, .slice Ay ys.length cy0] W (AddVP W w.heap.size cap ys.length D (fun _ => .int .u64 0) (Num.cy Num.B64 D (Num.le Num.B64 ys) ys.length))) := Lib.hid fun W hW hk =>
    subVV_any w.heap.size cap ys.length Ax Ay cx cy0 _ _ (fun _ => .int .u64 0) W (subVVg_any w.heap.size cap ys.length Ax Ay cx cy0 (Num.le Num.B64 xs) (Num.le Num.B64 ys) D HDY.out (fun _ => .int .u64 0) (by omega) (by omega) W (rowIs_heap HROW.out hW)
      (Reads.of_sl (HS.out.1.below hk) HS.out.2 (fun b off e => by have := HFX.out b off e; omega) ys.length h2 _)
      (Reads.of_sl (HT.out.1.below hk) HT.out.2 (fun b off e => by have := HFY.out b off e; omega) ys.length (Nat.le_refl _) _))
  clear hrow hbw HMK
  go_wp2_with fail
  go_region_held3 (fun X : World => True) (trivial)
    ((
      go_at_call 124
      refine Calls.mono (HADD.out _ rfl ⟨HBW.out.os, HBW.out.tape, HBW.out.output, HBW.out.size, HBW.out.block⟩) ?_
      rintro e w2 ⟨rfl, hr2, hg2⟩))
  have hk2 : Kept w w2 := kept_of_only (B := w.heap.size) HBW.out (g := w.heap.size) ⟨hg2.os, hg2.tape, hg2.output, hg2.size, hg2.block⟩ (Nat.le_refl _) HBW.out.size
  have hC := Num.cy_le Num.B64_pos D (Num.le Num.B64 ys) ys.length
  have hSm : D < Num.B64 ^ xs.length := by have e1 := HXY.out.1; have e2 := HDY.out; omega
  have HSM := Lib.hid hSm
  have HK2 := Lib.hid hk2
  have HR2 := Lib.hid hr2
  generalize hCC : Num.cy Num.B64 D (Num.le Num.B64 ys) ys.length = C at *
  have HCC := Lib.hid hCC
  have HC1 := Lib.hid hC
  clear hk2 hSm hr2 hg2 hCC hC hsz
  by_cases hgt : ys.length < xs.length
  · have hlt : (ys.length : Int) < (xs.length : Int) := by omega
    have hsz2 : ∀ wx : World, (Instr.slice 112 (.slice (some ⟨w.heap.size, 0, none⟩) xs.length cap) (some (.int .i64 (ys.length : Int))) none none).run Tryz.prog wx = .ok (.slice (some ⟨w.heap.size, ys.length, none⟩) (xs.length - ys.length) (cap - ys.length)) wx := fun wx => by
      have := run_lo98 (some ⟨w.heap.size, 0, none⟩) xs.length cap ys.length (by omega) wx
      rwa [cutA_some _ _ _ _ h1 (by omega), Nat.zero_add] at this
    have hsx2 : ∀ wx : World, (Instr.slice 112 (.slice Ax xs.length cx) (some (.int .i64 (ys.length : Int))) none none).run Tryz.prog wx = .ok (.slice (cutA Ax ys.length cx) (xs.length - ys.length) (cx - ys.length)) wx := fun wx => run_lo98 Ax xs.length cx ys.length (by omega) wx
    have HSH : Hid (Num.le Num.B64 (xs.drop ys.length) = D / Num.B64 ^ ys.length + C ∧ Num.cy Num.B64 (D / Num.B64 ^ ys.length) C (xs.length - ys.length) = 0) := by
      have := sub_hi D (Num.le Num.B64 ys) ys.length xs.length hgt (by rw [← HDY.out]; exact HXY.out.1) HXY.out.2.1
      rw [HCC.out, ← HDY.out, ← HXY.out.2.2] at this
      exact this
    have HVW : Hid (∀ W : World, W.heap = w2.heap → Kept w W → Calls Tryz.prog 125 #[.slice (some ⟨w.heap.size, ys.length, none⟩) (xs.length - ys.length) (cap - ys.length), .slice (cutA Ax ys.length cx) (xs.length - ys.length) (cx - ys.length), .int .u64 (C : Int)] W
        (AddWP W w.heap.size cap ys.length (xs.length - ys.length) (D / Num.B64 ^ ys.length) (wv D ys.length (fun _ => .int .u64 0)) 0)) := Lib.hid fun W hW hk => by
      have hsd := (HS.out.1.below hk).from_ ys.length (by rw [w64_len]; omega)
      rw [← w64_drop] at hsd
      rw [← HSH.out.2]
      refine subVW_any w.heap.size cap ys.length (xs.length - ys.length) (cap - ys.length) (cutA Ax ys.length cx) (cx - ys.length) (xs.drop ys.length) C (D / Num.B64 ^ ys.length) HSH.out.1 _ (by omega) (by rw [List.length_drop]) (by omega) (by omega) (by omega) HC1.out (fun d hd => HS.out.2 d (List.mem_of_mem_drop hd)) W (rowIs_heap HR2.out hW) hsd ?_
      intro b off e
      unfold cutA at e
      split at e
      · have := HFX.out b off e; omega
      · obtain ⟨b0, o0, e0, _⟩ := HS.out.1.at_ (w64_ne (by omega))
        rw [e0] at e
        simp [Addr.add] at e
        have := HFX.out b0 o0 e0
        split at e <;> (injection e with e1 e2 e3; omega)
    go_wp2_with fail
    go_region_held3 (fun X : World => True) (trivial)
      ((
        go_at_call 125
        refine Calls.mono (HVW.out _ rfl ⟨HK2.out.os, HK2.out.tape, HK2.out.output, HK2.out.size, HK2.out.block⟩) ?_
        rintro e w3 ⟨rfl, hr3, hg3⟩))
    have hk3 : Kept w w3 := kept_of_only (B := w.heap.size) HK2.out (g := w.heap.size) ⟨hg3.os, hg3.tape, hg3.output, hg3.size, hg3.block⟩ (Nat.le_refl _) HK2.out.size
    have HHH : Hid (∀ j, j < xs.length → (wo (D / Num.B64 ^ ys.length) ys.length (xs.length - ys.length) (wv D ys.length (fun _ => .int .u64 0))) j = .int .u64 ((Num.dg Num.B64 D j : Nat) : Int)) := by
      exact Lib.hid fun j hj => by
        show wo _ _ _ _ j = _
        unfold wo
        by_cases hjn : j < ys.length
        · rw [if_neg (by omega)]
          unfold wv
          rw [if_pos hjn]
        · rw [if_pos (by omega)]
          have := dg_add Num.B64 D ys.length (j - ys.length)
          rw [show ys.length + (j - ys.length) = j by omega] at this
          rw [this]
    have hSl := ww_row hr3 HHH.out (by omega) (by unfold maxLen; omega)
    have hNO := norm_any (some ⟨w.heap.size, 0, none⟩) cap (ww D xs.length) (by simp [ww]; omega) _ hSl
    have hwl : (ww D xs.length).length = xs.length := by simp [ww]
    rw [hwl] at hNO
    have hRN := RetNat.of_ww hr3 HHH.out (by omega) (by unfold maxLen; omega) HSM.out hk3
    have HNO := Lib.hid hNO
    have HRN := Lib.hid hRN
    clear hSl hNO hwl hRN
    go_wp2_with fail
    refine (HNO.out).mono ?_
    rintro e w5 ⟨rfl, rfl⟩
    go_wp2_with fail
    go_ret
    exact HRN.out
  · have heq : ys.length = xs.length := by omega
    have hC0 : C = 0 := by
      rw [← HCC.out]
      exact Num.cy_last _ _ _ (by rw [← HDY.out, heq]; exact HXY.out.1)
    subst hC0
    have ngt : ¬ (ys.length : Int) < (xs.length : Int) := by omega
    have hr2x := HR2.out
    have hk2x := HK2.out
    have HHH : Hid (∀ j, j < xs.length → (wv D ys.length (fun _ => .int .u64 0)) j = .int .u64 ((Num.dg Num.B64 D j : Nat) : Int)) := by
      exact Lib.hid fun j hj => by
        show wv _ _ _ j = _
        unfold wv
        rw [if_pos (by omega)]
    have hSl := ww_row hr2x HHH.out (by omega) (by unfold maxLen; omega)
    have hNO := norm_any (some ⟨w.heap.size, 0, none⟩) cap (ww D xs.length) (by simp [ww]; omega) _ hSl
    have hwl : (ww D xs.length).length = xs.length := by simp [ww]
    rw [hwl] at hNO
    have hRN := RetNat.of_ww hr2x HHH.out (by omega) (by unfold maxLen; omega) HSM.out hk2x
    have HNO := Lib.hid hNO
    have HRN := Lib.hid hRN
    clear hSl hNO hwl hRN
    go_wp2_with fail
    refine (HNO.out).mono ?_
    rintro e w5 ⟨rfl, rfl⟩
    go_wp2_with fail
    go_ret
    exact HRN.out
end Go.Proofs.YtamocmelhnmkeaaGreat
