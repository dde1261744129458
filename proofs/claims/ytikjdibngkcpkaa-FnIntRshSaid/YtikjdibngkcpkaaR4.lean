import Derived.Test.YtikjdibngkcpkaaR3
namespace Go.Proofs.Ytikjdibngkcpkaa
open Go.ChangeShapes Go.WideShapes Go.ChangeAt Go.RowKit
set_option linter.unusedVariables false
/-- the rest of the row stays -/
theorem wo_stay (S X n i L : Nat) (f : Nat → Value) (hi : i ≤ L) (hf : ∀ j, j < L → f (n + j) = .int .u64 ((Num.dg Num.B64 X j : Nat) : Int)) (h : ∀ j, i ≤ j → j < L → Num.dg Num.B64 S j = Num.dg Num.B64 X j) : wo S n i f = wo S n L f := by
  funext j
  unfold wo
  by_cases h1 : n ≤ j ∧ j < n + i
  · rw [if_pos h1, if_pos (by omega)]
  · rw [if_neg h1]
    by_cases h2 : n ≤ j ∧ j < n + L
    · rw [if_pos h2, h (j - n) (by omega) (by omega), ← hf (j - n) (by omega), show n + (j - n) = j by omega]
    · rw [if_neg h2]
set_option maxRecDepth 100000 in
set_option maxHeartbeats 4000000 in
/-- x is z -/
theorem addVW_own (g cap n L Lc : Nat) (X C : Nat) (f : Nat → Value) (hL : 0 < L) (hLc : L ≤ Lc) (hcap : n + L ≤ cap) (hcap2 : cap ≤ 1000000) (hC : C ≤ 1) (hf : ∀ j, j < L → f (n + j) = .int .u64 ((Num.dg Num.B64 X j : Nat) : Int))
    (w : World) (hr : w.rowIs g 106 cap f) :
    Calls Try.prog 124 #[.slice (some ⟨g, n, none⟩) L Lc, .slice (some ⟨g, n, none⟩) L Lc, .int .u64 (C : Int)] w (AddWP w g cap n L (X + C) f (Num.cy Num.B64 X C L)) := by
  have HX : Hid (∀ (wr : World) i j, i ≤ j → j < L → wr.rowIs g 106 cap (wo (X + C) n i f) → wr.cell? ⟨g, n + j, none⟩ = some (.int .u64 ((Num.dg Num.B64 X j : Nat) : Int))) := Lib.hid fun wr i j h1 h2 h3 => by
    rw [h3.cell (i := n + j) (by omega)]
    unfold wo
    rw [if_neg (by omega), hf j h2]
  have hx0 := HX.out w 0 0 (Nat.le_refl _) hL (by rw [wo_zero]; exact hr)
  have hneq := neqW g n
  obtain ⟨hC0, hCj⟩ := dg_small hC
  have hst := Num.cy_step Num.B64_pos X C 0
  rw [hC0, Num.cy_zero, Nat.add_zero] at hst
  have hz := Num.dg_lt Num.B64_pos (X + C) 0
  have hk1 := Num.cy_le Num.B64_pos X C 1
  have HADD := Lib.hid (bitsAdd_any (Num.dg Num.B64 X 0) C 0 (Num.dg Num.B64 (X + C) 0) (Num.cy Num.B64 X C 1) (by omega) hz hst w)
  have hset := hr.set n (.int .u64 ((Num.dg Num.B64 (X + C) 0 : Nat) : Int))
  have hfun : (fun j => if j = n then Value.int .u64 ((Num.dg Num.B64 (X + C) 0 : Nat) : Int) else f j) = wo (X + C) n 1 f := by
    have := wo_set (X + C) n 0 f
    rwa [wo_zero] at this
  rw [hfun] at hset
  have hfr := hr.frozen n
  have hgs := only_set (World.grownBy.refl w (some g)) n (.int .u64 ((Num.dg Num.B64 (X + C) 0 : Nat) : Int))
  have HSET := Lib.hid hset
  have HGS := Lib.hid hgs
  have HCJ : Hid (∀ j, 1 ≤ j → Num.dg Num.B64 C j = 0) := Lib.hid hCj
  have HC1 := Lib.hid hC
  have HFF := Lib.hid hf
  have hLne : ((L : Int) == 0) = false := by simp; omega
  have hLp : (0 : Int) < (L : Int) := by omega
  have hx0' : w.cell? ⟨g, n, none⟩ = some (.int .u64 ((Num.dg Num.B64 X 0 : Nat) : Int)) := hx0
  clear hr hset hgs hfun hz hst hC0 hCj hx0 hC hf
  generalize hd0 : Num.dg Num.B64 X 0 = x0 at *
  generalize hz0 : Num.dg Num.B64 (X + C) 0 = z0 at *
  generalize hk : Num.cy Num.B64 X C 1 = k1 at *
  have HK := Lib.hid hk
  clear hd0 hz0 hk
  have hk01 : k1 = 0 ∨ k1 = 1 := by omega
  clear hk1
  rcases hk01 with rfl | rfl
  · go_enter Try.func124, Try.ntmps124
    go_wp2_with fail
    refine (HADD.out).mono ?_
    rintro e w1 ⟨rfl, rfl⟩
    go_wp2_with fail
    go_quiet (fail)
    go_wp2_with fail
    have hst := fun t => cy_stays X C 1 (by rw [Nat.pow_one]; have h1 := HC1.out; have h2 : Num.B64 = 18446744073709551616 := rfl; omega) HK.out t
    have hrow := HSET.out
    rw [wo_stay (X + C) X n 1 L f hL HFF.out (fun j h1 h2 => by have := (hst (j - 1)).1; rwa [show 1 + (j - 1) = j by omega] at this)] at hrow
    have hcL : Num.cy Num.B64 X C L = 0 := by have := (hst (L - 1)).2; rwa [show 1 + (L - 1) = L by omega] at this
    go_ret
    exact ⟨by rw [hcL]; rfl, rowIs_heap hrow rfl, grown_heap HGS.out (grown_drewN (World.grownBy.refl _ _) _)⟩
  · go_enter Try.func124, Try.ntmps124
    go_wp2_with fail
    refine (HADD.out).mono ?_
    rintro e w1 ⟨rfl, rfl⟩
    go_wp2_with fail
    go_loopw [9] (fun iv wr => ∃ i : Nat, iv = .int .i64 i ∧ 1 ≤ i ∧ i ≤ L ∧ Hid (Num.cy Num.B64 X C i = 1) ∧ wr.rowIs g 106 cap (wo (X + C) n i f) ∧ w.grownBy wr (some g)) (fun iv _ => L - (intOf iv).toNat)
    case atStart => exact ⟨1, rfl, Nat.le_refl _, hL, HK, HSET.out, HGS.out⟩
    case round =>
      obtain ⟨i, rfl, hi1, hi, HCI, hri, hgi⟩ := hrel
      by_cases hlt : i < L
      · have hst := Num.cy_step Num.B64_pos X C i
        rw [HCJ.out i hi1, HCI.out, Nat.add_zero] at hst
        have hz := Num.dg_lt Num.B64_pos (X + C) i
        have hx := Num.dg_lt Num.B64_pos X i
        have hk1 := Num.cy_le Num.B64_pos X C (i + 1)
        have hcx := HX.out wr i i (Nat.le_refl _) hlt hri
        have hset := hri.set (n + i) (.int .u64 ((Num.dg Num.B64 (X + C) i : Nat) : Int))
        rw [wo_set] at hset
        have hfr2 := hri.frozen (n + i)
        have hgs := only_set hgi (n + i) (.int .u64 ((Num.dg Num.B64 (X + C) i : Nat) : Int))
        have HSETi := Lib.hid hset
        have HGSi := Lib.hid hgs
        have i0 : (0 : Int) ≤ (i : Int) := by omega
        have i1 : (i : Int) < (L : Int) := by omega
        have hB : Num.B64 = 18446744073709551616 := rfl
        clear hset hgs hri hgi
        generalize hki : Num.cy Num.B64 X C (i + 1) = k2 at *
        generalize hxi : Num.dg Num.B64 X i = xi at *
        generalize hzi : Num.dg Num.B64 (X + C) i = zi at *
        have HKI := Lib.hid hki
        rw [hB] at hst hz hx
        clear hki hxi hzi hB
        have hcase : (k2 = 0 ∧ xi < 18446744073709551615 ∧ zi = xi + 1) ∨ (k2 = 1 ∧ xi = 18446744073709551615 ∧ zi = 0) := by omega
        clear hst hz hx hk1
        rcases hcase with ⟨rfl, hx1, rfl⟩ | ⟨rfl, hx1, rfl⟩
        · have q1 : ((xi : Int) != 18446744073709551615) = true := by simp; omega
          have q2 : IntKind.u64.wrap ((xi : Int) + 1) = (xi : Int) + 1 := by rw [IntKind.wrap_u64]; omega
          have q3 : (xi : Int) < 18446744073709551615 := by omega
          have q4 : IntKind.i64.wrap ((i : Int) + 1) = (i : Int) + 1 := by rw [IntKind.wrap_i64]; omega
          have ecast : ((xi + 1 : Nat) : Int) = (xi : Int) + 1 := by omega
          rw [ecast] at HSETi HGSi
          clear ecast hx1
          go_wp2_with fail
          go_quiet (fail)
          go_wp2_with fail
          have hst := fun t => cy_stays X C (i + 1) (by
            have h1 := HC1.out
            have h2 : Num.B64 = 18446744073709551616 := rfl
            have h3 : Num.B64 ^ 1 ≤ Num.B64 ^ (i + 1) := Nat.pow_le_pow_right Num.B64_pos (by omega)
            rw [Nat.pow_one] at h3
            omega) HKI.out t
          have hrow := HSETi.out
          rw [wo_stay (X + C) X n (i + 1) L f hlt HFF.out (fun j h1 h2 => by have := (hst (j - (i + 1))).1; rwa [show i + 1 + (j - (i + 1)) = j by omega] at this)] at hrow
          have hcL : Num.cy Num.B64 X C L = 0 := by have := (hst (L - (i + 1))).2; rwa [show i + 1 + (L - (i + 1)) = L by omega] at this
          go_ret
          exact ⟨by rw [hcL]; rfl, rowIs_heap hrow rfl, grown_heap HGSi.out (grown_drewN (World.grownBy.refl _ _) _)⟩
        · subst hx1
          go_wp2_with fail
          exact ⟨⟨i + 1, by go_num, by omega, hlt, HKI, HSETi.out, HGSi.out⟩, by simp [intOf]; omega⟩
      · obtain rfl : i = L := by omega
        go_wp2_with fail
        go_ret
        exact ⟨by rw [HCI.out]; rfl, hri, hgi⟩
set_option maxRecDepth 100000 in
theorem make_grow (Az : Option Addr) (zn zc n : Nat) (hz : zc < n) (h2 : 2 ≤ n) (hn : n ≤ 268435456) (w : World) : Calls Try.prog 114 #[.slice Az zn zc, .int .i64 (n : Int)] w (MakeP w n) := by
  obtain ⟨i0, hi0, hz0, hz1, hz2⟩ := info_parts info_word
  have e1 : ¬ (n : Int) ≤ (zc : Int) := by omega
  have e2 : ((n : Int) == 1) = false := by simp; omega
  have hmk := fun W => run_make (P := Try.prog) W 98 106 i0 (.int .u64 0) Try.underlying98 hi0 hz0 .i64 .i64 (n : Int) ((n : Int) + 4) (by omega) (by omega) (by rw [hz2]; omega) (by omega)
  have t1 : ((n : Int) + 4).toNat = n + 4 := by omega
  simp only [hz1, t1, Int.toNat_natCast, Nat.mul_one] at hmk
  clear hi0 hz0 hz1 hz2
  go_enter Try.func114, Try.ntmps114
  go_wp2
  go_ret
  exact .inr ⟨by omega, n + 4, by omega, by omega, rfl, World.rowIs_made w (.int .u64 0) (n + 4) _, (Below.refl _ w).alloc (Nat.le_refl _) _⟩
set_option maxRecDepth 100000 in
set_option maxHeartbeats 4000000 in
theorem natAddG_core (Az : Option Addr) (zn zc : Nat) (Ax Ay : Option Addr) (cx cy0 : Nat) (xs ys : List Nat) (hzc : zc < xs.length + 1) (h1 : 0 < ys.length) (h2 : ys.length ≤ xs.length) (h3 : xs.length ≤ 100000) (hdx : ∀ d ∈ xs, d < Num.B64) (hdy : ∀ d ∈ ys, d < Num.B64) (w : World) (hs : Sl w Ax cx (w64 xs)) (ht : Sl w Ay cy0 (w64 ys)) :
    Calls Try.prog 102 #[.slice Az zn zc, .slice Ax xs.length cx, .slice Ay ys.length cy0] w (RetNat w (Num.le Num.B64 xs + Num.le Num.B64 ys)) := by
  have hcx := hs.cap
  have hcy := ht.cap
  rw [w64_len] at hcx hcy
  have hmk := make_grow Az zn zc (xs.length + 1) hzc (by omega) (by omega) w
  have ecast : ((xs.length + 1 : Nat) : Int) = (xs.length : Int) + 1 := by omega
  rw [ecast] at hmk
  have HMK := Lib.hid hmk
  have HS := Lib.hid (And.intro hs hdx)
  have HT := Lib.hid (And.intro ht hdy)
  have hnefx : ∀ b off, Ax = some ⟨b, off, none⟩ → b < w.heap.size := fun b off e => by
    obtain ⟨b', off', e', hc⟩ := hs.at_ (w64_ne (by omega))
    rw [e] at e'; injection e' with e'; injection e' with e1; subst e1
    exact block_lt_of_cell (hc 0 _ (w64_get xs 0 (by omega)))
  have hnefy : ∀ b off, Ay = some ⟨b, off, none⟩ → b < w.heap.size := fun b off e => by
    obtain ⟨b', off', e', hc⟩ := ht.at_ (w64_ne h1)
    rw [e] at e'; injection e' with e'; injection e' with e1; subst e1
    exact block_lt_of_cell (hc 0 _ (w64_get ys 0 h1))
  have HFX := Lib.hid hnefx
  have HFY := Lib.hid hnefy
  have hXb := Num.le_lt Num.B64 Num.B64_pos xs hdx
  have hYb := Num.le_lt Num.B64 Num.B64_pos ys hdy
  have hdrop := le_drop Num.B64 Num.B64_pos xs hdx ys.length
  have HXY : Hid (Num.le Num.B64 xs < Num.B64 ^ xs.length ∧ Num.le Num.B64 ys < Num.B64 ^ ys.length ∧ Num.le Num.B64 (xs.drop ys.length) = Num.le Num.B64 xs / Num.B64 ^ ys.length) := Lib.hid ⟨hXb, hYb, hdrop⟩
  have n1 : ¬ ((xs.length : Int) < (ys.length : Int)) := by omega
  have n1' : ¬ xs.length < ys.length := by omega
  have n2 : ((xs.length : Int) == 0) = false := by rw [beq_eq_false_iff_ne]; omega
  have n3 : ((ys.length : Int) == 0) = false := by rw [beq_eq_false_iff_ne]; omega
  have hsy : ∀ wx : World, (Instr.slice 98 (.slice Ay ys.length cy0) none (some (.int .i64 (ys.length : Int))) none).run Try.prog wx = .ok (.slice Ay ys.length cy0) wx := fun wx => run_hi98 Ay ys.length cy0 ys.length hcy wx
  have hsx : ∀ wx : World, (Instr.slice 98 (.slice Ax xs.length cx) none (some (.int .i64 (ys.length : Int))) none).run Try.prog wx = .ok (.slice Ax ys.length cx) wx := fun wx => run_hi98 Ax xs.length cx ys.length (by omega) wx
  clear hmk ecast hs ht hnefx hnefy hdx hdy hXb hYb hdrop
  go_enter Try.func102, Try.ntmps102
  go_wp2_with fail
  refine (HMK.out).mono ?_
  rintro e w1 (⟨h0, _⟩ | ⟨h0, cap, hc1, hc2, rfl, hrow, hbw⟩)
  · omega
  have hsz : ∀ wx : World, (Instr.slice 98 (.slice (some ⟨w.heap.size, 0, none⟩) (xs.length + 1) cap) none (some (.int .i64 (ys.length : Int))) none).run Try.prog wx = .ok (.slice (some ⟨w.heap.size, 0, none⟩) ys.length cap) wx := fun wx => run_hi98 _ (xs.length + 1) cap ys.length (by omega) wx
  have HROW := Lib.hid hrow
  have HBW := Lib.hid hbw
  have HADD : Hid (∀ W : World, W.heap = w1.heap → Kept w W → Calls Try.prog 123 #[.slice (some ⟨w.heap.size, 0, none⟩) ys.length cap, .slice Ax ys.length cx, .slice Ay ys.length cy0] W (AddVP W w.heap.size cap ys.length (Num.le Num.B64 xs + Num.le Num.B64 ys) (fun _ => .int .u64 0) (Num.cy Num.B64 (Num.le Num.B64 xs) (Num.le Num.B64 ys) ys.length))) := Lib.hid fun W hW hk =>
    addVV_any w.heap.size cap ys.length Ax Ay cx cy0 _ _ (fun _ => .int .u64 0) W (addVVg_any w.heap.size cap ys.length Ax Ay cx cy0 (Num.le Num.B64 xs) (Num.le Num.B64 ys) (fun _ => .int .u64 0) (by omega) (by omega) W (rowIs_heap HROW.out hW)
      (Reads.of_sl (HS.out.1.below hk) HS.out.2 (fun b off e => by have := HFX.out b off e; omega) ys.length h2 _)
      (Reads.of_sl (HT.out.1.below hk) HT.out.2 (fun b off e => by have := HFY.out b off e; omega) ys.length (Nat.le_refl _) _))
  clear hrow hbw HMK
  go_wp2_with fail
  go_region_held3 (fun X : World => True) (trivial)
    ((
      go_at_call 123
      refine Calls.mono (HADD.out _ rfl ⟨HBW.out.os, HBW.out.tape, HBW.out.output, HBW.out.size, HBW.out.block⟩) ?_
      rintro e w2 ⟨rfl, hr2, hg2⟩))
  have hk2 : Kept w w2 := kept_of_only (B := w.heap.size) HBW.out (g := w.heap.size) ⟨hg2.os, hg2.tape, hg2.output, hg2.size, hg2.block⟩ (Nat.le_refl _) HBW.out.size
  have hC := Num.cy_le Num.B64_pos (Num.le Num.B64 xs) (Num.le Num.B64 ys) ys.length
  have hSm : Num.le Num.B64 xs + Num.le Num.B64 ys < Num.B64 ^ (xs.length + 1) := by
    have e1 := HXY.out.1
    have e2 := HXY.out.2.1
    have e3 : Num.B64 ^ ys.length ≤ Num.B64 ^ xs.length := Nat.pow_le_pow_right Num.B64_pos h2
    have hB : 2 ≤ Num.B64 := by decide
    rw [Nat.pow_succ]
    have := Nat.mul_le_mul_left (Num.B64 ^ xs.length) hB
    omega
  have HSM := Lib.hid hSm
  have HK2 := Lib.hid hk2
  have HR2 := Lib.hid hr2
  generalize hCC : Num.cy Num.B64 (Num.le Num.B64 xs) (Num.le Num.B64 ys) ys.length = C at *
  have HCC := Lib.hid hCC
  have HC1 := Lib.hid hC
  clear hk2 hSm hr2 hg2 hCC hC hsz
  by_cases hgt : ys.length < xs.length
  · have hlt : (ys.length : Int) < (xs.length : Int) := by omega
    have hsz2 : ∀ wx : World, (Instr.slice 98 (.slice (some ⟨w.heap.size, 0, none⟩) (xs.length + 1) cap) (some (.int .i64 (ys.length : Int))) (some (.int .i64 (xs.length : Int))) none).run Try.prog wx = .ok (.slice (some ⟨w.heap.size, ys.length, none⟩) (xs.length - ys.length) (cap - ys.length)) wx := fun wx => by
      have := run_mid98 (some ⟨w.heap.size, 0, none⟩) (xs.length + 1) cap ys.length xs.length (by omega) (by omega) wx
      rwa [cutA_some _ _ _ _ h1 (by omega), Nat.zero_add] at this
    have hsx2 : ∀ wx : World, (Instr.slice 98 (.slice Ax xs.length cx) (some (.int .i64 (ys.length : Int))) none none).run Try.prog wx = .ok (.slice (cutA Ax ys.length cx) (xs.length - ys.length) (cx - ys.length)) wx := fun wx => run_lo98 Ax xs.length cx ys.length (by omega) wx
    have hC2 := Num.cy_le Num.B64_pos (Num.le Num.B64 (xs.drop ys.length)) C (xs.length - ys.length)
    have HVW : Hid (∀ W : World, W.heap = w2.heap → Kept w W → Calls Try.prog 124 #[.slice (some ⟨w.heap.size, ys.length, none⟩) (xs.length - ys.length) (cap - ys.length), .slice (cutA Ax ys.length cx) (xs.length - ys.length) (cx - ys.length), .int .u64 (C : Int)] W
        (AddWP W w.heap.size cap ys.length (xs.length - ys.length) (Num.le Num.B64 (xs.drop ys.length) + C) (wv (Num.le Num.B64 xs + Num.le Num.B64 ys) ys.length (fun _ => .int .u64 0)) (Num.cy Num.B64 (Num.le Num.B64 (xs.drop ys.length)) C (xs.length - ys.length)))) := Lib.hid fun W hW hk => by
      have hsd := (HS.out.1.below hk).from_ ys.length (by rw [w64_len]; omega)
      rw [← w64_drop] at hsd
      refine addVW_any w.heap.size cap ys.length (xs.length - ys.length) (cap - ys.length) (cutA Ax ys.length cx) (cx - ys.length) (xs.drop ys.length) C _ (by omega) (by rw [List.length_drop]) (by omega) (by omega) (by omega) HC1.out (fun d hd => HS.out.2 d (List.mem_of_mem_drop hd)) W (rowIs_heap HR2.out hW) hsd ?_
      intro b off e
      unfold cutA at e
      split at e
      · have := HFX.out b off e; omega
      · obtain ⟨b0, o0, e0, _⟩ := HS.out.1.at_ (w64_ne (by omega))
        rw [e0] at e
        simp [Addr.add] at e
        have := HFX.out b0 o0 e0
        split at e <;> (injection e with e1 e2 e3; omega)
    go_wp2_with fail
    go_region_held3 (fun X : World => True) (trivial)
      ((
        go_at_call 124
        refine Calls.mono (HVW.out _ rfl ⟨HK2.out.os, HK2.out.tape, HK2.out.output, HK2.out.size, HK2.out.block⟩) ?_
        rintro e w3 ⟨rfl, hr3, hg3⟩))
    have hk3 : Kept w w3 := kept_of_only (B := w.heap.size) HK2.out (g := w.heap.size) ⟨hg3.os, hg3.tape, hg3.output, hg3.size, hg3.block⟩ (Nat.le_refl _) HK2.out.size
    have HHI : Hid ((∀ j, j < xs.length - ys.length → Num.dg Num.B64 (Num.le Num.B64 xs + Num.le Num.B64 ys) (ys.length + j) = Num.dg Num.B64 (Num.le Num.B64 (xs.drop ys.length) + C) j) ∧ Num.dg Num.B64 (Num.le Num.B64 xs + Num.le Num.B64 ys) xs.length = Num.cy Num.B64 (Num.le Num.B64 (xs.drop ys.length)) C (xs.length - ys.length)) := by
      have := add_hi (Num.le Num.B64 xs) (Num.le Num.B64 ys) ys.length xs.length hgt HXY.out.1 HXY.out.2.1
      rw [HCC.out, ← HXY.out.2.2] at this
      exact this
    have HHH : Hid (∀ j, j < xs.length → (wo (Num.le Num.B64 (xs.drop ys.length) + C) ys.length (xs.length - ys.length) (wv (Num.le Num.B64 xs + Num.le Num.B64 ys) ys.length (fun _ => .int .u64 0))) j = .int .u64 ((Num.dg Num.B64 (Num.le Num.B64 xs + Num.le Num.B64 ys) j : Nat) : Int)) := by
      exact Lib.hid fun j hj => by
        show wo _ _ _ _ j = _
        unfold wo
        by_cases hjn : j < ys.length
        · rw [if_neg (by omega)]
          unfold wv
          rw [if_pos hjn]
        · rw [if_pos (by omega)]
          have := HHI.out.1 (j - ys.length) (by omega)
          rw [show ys.length + (j - ys.length) = j by omega] at this
          rw [this]
    have hcl := hr3.cell (i := xs.length) (by omega)
    have hfr := hr3.frozen xs.length
    have hset := hr3.set xs.length (.int .u64 ((Num.dg Num.B64 (Num.le Num.B64 xs + Num.le Num.B64 ys) xs.length : Nat) : Int))
    have hk4 : Kept w (w3.setCell ⟨w.heap.size, xs.length, none⟩ (.int .u64 ((Num.dg Num.B64 (Num.le Num.B64 xs + Num.le Num.B64 ys) xs.length : Nat) : Int))) := hk3.setCell (Nat.le_refl _) _
    have hf4 : ∀ j, j < xs.length + 1 → (if j = xs.length then Value.int .u64 ((Num.dg Num.B64 (Num.le Num.B64 xs + Num.le Num.B64 ys) xs.length : Nat) : Int) else (wo (Num.le Num.B64 (xs.drop ys.length) + C) ys.length (xs.length - ys.length) (wv (Num.le Num.B64 xs + Num.le Num.B64 ys) ys.length (fun _ => .int .u64 0))) j) = .int .u64 ((Num.dg Num.B64 (Num.le Num.B64 xs + Num.le Num.B64 ys) j : Nat) : Int) := fun j hj => by
      by_cases h : j = xs.length
      · rw [if_pos h, h]
      · rw [if_neg h]; exact HHH.out j (by omega)
    have hSl := ww_row hset hf4 (by omega) (by unfold maxLen; omega)
    have hNO := norm_any (some ⟨w.heap.size, 0, none⟩) cap (ww (Num.le Num.B64 xs + Num.le Num.B64 ys) (xs.length + 1)) (by simp [ww]; omega) _ hSl
    have hwl : (ww (Num.le Num.B64 xs + Num.le Num.B64 ys) (xs.length + 1)).length = xs.length + 1 := by simp [ww]
    rw [hwl] at hNO
    have hRN := RetNat.of_ww hset hf4 (by omega) (by unfold maxLen; omega) HSM.out hk4
    have HNO := Lib.hid hNO
    have HRN := Lib.hid hRN
    have hmI : (xs.length : Int) < (xs.length : Int) + 1 := by omega
    generalize hold : (wo (Num.le Num.B64 (xs.drop ys.length) + C) ys.length (xs.length - ys.length) (wv (Num.le Num.B64 xs + Num.le Num.B64 ys) ys.length (fun _ => .int .u64 0))) xs.length = old at hcl
    clear hset hk4 hf4 hSl hNO hwl hRN hold hr3 hg3 hk3
    rw [HHI.out.2] at HNO HRN
    go_wp2_with fail
    refine (HNO.out).mono ?_
    rintro e w5 ⟨rfl, rfl⟩
    go_wp2_with fail
    go_ret
    exact HRN.out
  · have heq : ys.length = xs.length := by omega
    have HEQ : Hid (Num.dg Num.B64 (Num.le Num.B64 xs + Num.le Num.B64 ys) xs.length = C) := by
      have := add_top (Num.le Num.B64 xs) (Num.le Num.B64 ys) ys.length (by rw [heq]; exact HXY.out.1) HXY.out.2.1
      rw [HCC.out, heq] at this
      exact this
    have hr2x := HR2.out
    have hk2x := HK2.out
    have HHH : Hid (∀ j, j < xs.length → (wv (Num.le Num.B64 xs + Num.le Num.B64 ys) ys.length (fun _ => .int .u64 0)) j = .int .u64 ((Num.dg Num.B64 (Num.le Num.B64 xs + Num.le Num.B64 ys) j : Nat) : Int)) := by
      exact Lib.hid fun j hj => by
        show wv _ _ _ j = _
        unfold wv
        rw [if_pos (by omega)]
    have hcl := hr2x.cell (i := xs.length) (by omega)
    have hfr := hr2x.frozen xs.length
    have hset := hr2x.set xs.length (.int .u64 ((Num.dg Num.B64 (Num.le Num.B64 xs + Num.le Num.B64 ys) xs.length : Nat) : Int))
    have hk4 : Kept w (w2.setCell ⟨w.heap.size, xs.length, none⟩ (.int .u64 ((Num.dg Num.B64 (Num.le Num.B64 xs + Num.le Num.B64 ys) xs.length : Nat) : Int))) := hk2x.setCell (Nat.le_refl _) _
    have hf4 : ∀ j, j < xs.length + 1 → (if j = xs.length then Value.int .u64 ((Num.dg Num.B64 (Num.le Num.B64 xs + Num.le Num.B64 ys) xs.length : Nat) : Int) else (wv (Num.le Num.B64 xs + Num.le Num.B64 ys) ys.length (fun _ => .int .u64 0)) j) = .int .u64 ((Num.dg Num.B64 (Num.le Num.B64 xs + Num.le Num.B64 ys) j : Nat) : Int) := fun j hj => by
      by_cases h : j = xs.length
      · rw [if_pos h, h]
      · rw [if_neg h]; exact HHH.out j (by omega)
    have hSl := ww_row hset hf4 (by omega) (by unfold maxLen; omega)
    have hNO := norm_any (some ⟨w.heap.size, 0, none⟩) cap (ww (Num.le Num.B64 xs + Num.le Num.B64 ys) (xs.length + 1)) (by simp [ww]; omega) _ hSl
    have hwl : (ww (Num.le Num.B64 xs + Num.le Num.B64 ys) (xs.length + 1)).length = xs.length + 1 := by simp [ww]
    rw [hwl] at hNO
    have hRN := RetNat.of_ww hset hf4 (by omega) (by unfold maxLen; omega) HSM.out hk4
    have HNO := Lib.hid hNO
    have HRN := Lib.hid hRN
    have hmI : (xs.length : Int) < (xs.length : Int) + 1 := by omega
    generalize hold : (wv (Num.le Num.B64 xs + Num.le Num.B64 ys) ys.length (fun _ => .int .u64 0)) xs.length = old at hcl
    clear hset hk4 hf4 hSl hNO hwl hRN hold hr2x hk2x
    rw [HEQ.out] at HNO HRN
    go_wp2_with fail
    refine (HNO.out).mono ?_
    rintro e w5 ⟨rfl, rfl⟩
    go_wp2_with fail
    go_ret
    exact HRN.out
theorem le_one : Num.le Num.B64 [1] = 1 := by simp [Num.le]
theorem one_cell {w : World} {A : Option Addr} {c : Nat} (h : Sl w A c (w64 [1])) : ∃ b off, A = some ⟨b, off, none⟩ ∧ b < w.heap.size ∧ 1 ≤ c ∧ w.cell? ⟨b, off, none⟩ = some (.int .u64 1) := by
  obtain ⟨b, off, rfl, hc⟩ := h.at_ (w64_ne (by simp))
  have h0 := hc 0 _ (w64_get [1] 0 (by simp))
  have hcap := h.cap
  rw [w64_len] at hcap
  exact ⟨b, off, rfl, block_lt_of_cell h0, by simpa using hcap, by simpa using h0⟩
theorem lw_one1 : LW (ww 1 1) 1 := by
  have h : ww 1 1 = [1] := by
    have h2 : 1 % Num.B64 = 1 := Nat.mod_eq_of_lt (by decide)
    simp [ww, Num.dg, h2, List.range_succ]
  rw [h]
  exact lw_one 1 (by decide) (by decide)
set_option maxRecDepth 100000 in
set_option maxHeartbeats 1000000 in
theorem set_own (g cap : Nat) (A1 : Option Addr) (c1 : Nat) (w : World) (ho : OwnN w g cap 0 0) (ht : Sl w A1 c1 (w64 [1])) :
    Calls Try.prog 108 #[.slice (some ⟨g, 0, none⟩) 0 cap, .slice A1 1 c1] w (InRow w g cap 1) := by
  obtain ⟨hc0, hcm, _, _, f, hr, _⟩ := ho
  obtain ⟨b, off, rfl, hb, hc1, hcell⟩ := one_cell ht
  have HMK := Lib.hid (make_own (some ⟨g, 0, none⟩) 0 cap 1 (by omega) w)
  have e1 : ((1 : Nat) : Int) = 1 := rfl
  rw [e1] at HMK
  have HR := Lib.hid hr
  have HC := Lib.hid hcell
  clear ht hcell hr
  go_enter Try.func108, Try.ntmps108
  go_wp2_with fail
  refine (HMK.out).mono ?_
  rintro e w1 ⟨rfl, rfl⟩
  go_wp2_with (refine wpList_copy_row rfl (.tmp 9) (.tmp 10) 98 98 rfl 106 Try.underlying98 size_word _ _ _ _ _ _ rfl rfl g 0 1 cap 106 f (fun t => Value.int .u64 1) HR.out (Nat.min_self _).symm (fun _ => ⟨rfl, b, off, rfl, fun j hj => by obtain rfl : j = 0 := (by omega); exact HC.out⟩) (by omega) (fun _ _ => rfl) ?_; intro w2 hr2 hg2; have HR2 := Lib.hid hr2; have HG2 := Lib.hid hg2; clear hr2 hg2)
  go_ret
  refine ⟨1, rfl, ⟨hc0, hcm, hc0, lw_one1, _, HR2.out, fun j hj => ?_⟩, HG2.out⟩
  obtain rfl : j = 0 := by omega
  rw [if_pos ⟨Nat.le_refl _, by omega⟩]
  have h2 : Num.dg Num.B64 1 0 = 1 := by
    unfold Num.dg
    rw [Nat.pow_zero, Nat.div_one, Nat.mod_eq_of_lt (by decide)]
  rw [h2]
  rfl
set_option maxRecDepth 100000 in
set_option maxHeartbeats 1000000 in
theorem natInc_empty (g cap : Nat) (A1 : Option Addr) (c1 : Nat) (w : World) (ho : OwnN w g cap 0 0) (ht : Sl w A1 c1 (w64 [1])) :
    Calls Try.prog 102 #[.slice (some ⟨g, 0, none⟩) 0 cap, .slice (some ⟨g, 0, none⟩) 0 cap, .slice A1 1 c1] w (InRow w g cap 1) := by
  have key : Calls Try.prog 102 #[.slice (some ⟨g, 0, none⟩) 0 cap, .slice A1 1 c1, .slice (some ⟨g, 0, none⟩) 0 cap] w (InRow w g cap 1) := by
    have HS := Lib.hid (set_own g cap A1 c1 w ho ht)
    clear ho ht
    go_enter Try.func102, Try.ntmps102
    go_wp2_with fail
    refine (HS.out).mono ?_
    rintro e w1 ⟨n', rfl, q, q2⟩
    have Q := Lib.hid (And.intro q q2)
    clear q q2
    go_wp2_with fail
    go_ret
    exact ⟨n', rfl, Q.out⟩
  have HS := Lib.hid key
  clear ho ht key
  go_enter Try.func102, Try.ntmps102
  go_wp2_with fail
  refine (HS.out).mono ?_
  rintro e w1 ⟨n', rfl, q, q2⟩
  have Q := Lib.hid (And.intro q q2)
  clear q q2
  go_wp2_with fail
  go_ret
  exact ⟨n', rfl, Q.out⟩
set_option maxRecDepth 100000 in
set_option maxHeartbeats 4000000 in
theorem natInc_in (g cap n N : Nat) (hn1 : 1 ≤ n) (hnc : n + 1 ≤ cap) (A1 : Option Addr) (c1 : Nat) (w : World) (ho : OwnN w g cap n N) (ht : Sl w A1 c1 (w64 [1])) (hne : ∀ b off, A1 = some ⟨b, off, none⟩ → b ≠ g) :
    Calls Try.prog 102 #[.slice (some ⟨g, 0, none⟩) n cap, .slice (some ⟨g, 0, none⟩) n cap, .slice A1 1 c1] w (InRow w g cap (N + 1)) := by
  obtain ⟨hc0, hcm, _, hl, f, hr, hf⟩ := ho
  have hwl0 : (ww N n).length = n := by simp [ww]
  have hNb := Num.le_lt Num.B64 Num.B64_pos (ww N n) hl.1.1
  rw [hl.2, hwl0] at hNb
  have h1b : 1 < Num.B64 ^ 1 := by decide
  have hmk := make_own (some ⟨g, 0, none⟩) n cap (n + 1) hnc w
  have ecast : ((n + 1 : Nat) : Int) = (n : Int) + 1 := by omega
  rw [ecast] at hmk
  have HMK := Lib.hid hmk
  have hc1 : 1 ≤ c1 := by have := ht.cap; rw [w64_len] at this; simpa using this
  have HT := Lib.hid (And.intro ht hne)
  have HNB := Lib.hid hNb
  have HR := Lib.hid hr
  have HFF := Lib.hid hf
  have n1 : ¬ ((n : Int) < 1) := by omega
  have n2 : ((n : Int) == 0) = false := by rw [beq_eq_false_iff_ne]; omega
  have hsy : ∀ wx : World, (Instr.slice 98 (.slice A1 1 c1) none (some (.int .i64 1)) none).run Try.prog wx = .ok (.slice A1 1 c1) wx := fun wx => by simpa using run_hi98 A1 1 c1 1 hc1 wx
  have hsx : ∀ wx : World, (Instr.slice 98 (.slice (some ⟨g, 0, none⟩) n cap) none (some (.int .i64 1)) none).run Try.prog wx = .ok (.slice (some ⟨g, 0, none⟩) 1 cap) wx := fun wx => by simpa using run_hi98 (some ⟨g, 0, none⟩) n cap 1 (by omega) wx
  have hsz : ∀ wx : World, (Instr.slice 98 (.slice (some ⟨g, 0, none⟩) (n + 1) cap) none (some (.int .i64 1)) none).run Try.prog wx = .ok (.slice (some ⟨g, 0, none⟩) 1 cap) wx := fun wx => by simpa using run_hi98 (some ⟨g, 0, none⟩) (n + 1) cap 1 (by omega) wx
  have HADD : Hid (∀ W : World, W.heap = w.heap → Kept w W → Calls Try.prog 123 #[.slice (some ⟨g, 0, none⟩) 1 cap, .slice (some ⟨g, 0, none⟩) 1 cap, .slice A1 1 c1] W (AddVP W g cap 1 (N + 1) f (Num.cy Num.B64 N 1 1))) := Lib.hid fun W hW hk => by
    have hy := Reads.of_sl (g := g) (HT.out.1.below hk) one_lt HT.out.2 1 (by simp) (fun i wr => wr.rowIs g 106 cap (wv (N + 1) i f))
    rw [le_one] at hy
    refine addVV_any g cap 1 (some ⟨g, 0, none⟩) A1 cap c1 _ _ f W (addVVg_any g cap 1 (some ⟨g, 0, none⟩) A1 cap c1 N 1 f (by omega) hcm W (rowIs_heap HR.out hW) ?_ hy)
    intro i wr hi hg hp
    have hp' : wr.rowIs g 106 cap (wv (N + 1) i f) := hp
    obtain rfl : i = 0 := by omega
    refine ⟨g, 0, rfl, ?_⟩
    rw [wv_zero] at hp'
    have := hp'.cell (i := 0) (by omega)
    rw [HFF.out 0 (by omega)] at this
    exact this
  clear hl hr hf ht hne hNb hmk ecast hwl0
  go_enter Try.func102, Try.ntmps102
  go_wp2_with fail
  refine (HMK.out).mono ?_
  rintro e w1 ⟨rfl, rfl⟩
  have hkd : Kept w w.drew := by go_grown
  have HKD := Lib.hid hkd
  clear hkd
  go_wp2_with fail
  go_region_held3 (fun X : World => True) (trivial)
    ((
      go_at_call 123
      refine Calls.mono (HADD.out _ rfl HKD.out) ?_
      rintro e w2 ⟨rfl, hr2, hg2⟩))
  have hgw : w.grownBy w2 (some g) := ⟨hg2.os, hg2.tape, hg2.output, hg2.size, hg2.block⟩
  have hC := Num.cy_le Num.B64_pos N 1 1
  have hSm : N + 1 < Num.B64 ^ (n + 1) := by
    have e1 := HNB.out
    have hB : 2 ≤ Num.B64 := by decide
    rw [Nat.pow_succ]
    have := Nat.mul_le_mul_left (Num.B64 ^ n) hB
    omega
  have HSM := Lib.hid hSm
  have HG2 := Lib.hid hgw
  have HR2 := Lib.hid hr2
  generalize hCC : Num.cy Num.B64 N 1 1 = C at *
  have HCC := Lib.hid hCC
  have HC1 := Lib.hid hC
  clear hgw hSm hr2 hg2 hCC hC hsz hsx hsy
  by_cases hgt : 1 < n
  · have hlt : (1 : Int) < (n : Int) := by omega
    have hsz2 : ∀ wx : World, (Instr.slice 98 (.slice (some ⟨g, 0, none⟩) (n + 1) cap) (some (.int .i64 1)) (some (.int .i64 (n : Int))) none).run Try.prog wx = .ok (.slice (some ⟨g, 1, none⟩) (n - 1) (cap - 1)) wx := fun wx => by
      have := run_mid98 (some ⟨g, 0, none⟩) (n + 1) cap 1 n (by omega) (by omega) wx
      rwa [cutA_some _ _ _ _ (by omega) (by omega), Nat.zero_add] at this
    have hsx2 : ∀ wx : World, (Instr.slice 98 (.slice (some ⟨g, 0, none⟩) n cap) (some (.int .i64 1)) none none).run Try.prog wx = .ok (.slice (some ⟨g, 1, none⟩) (n - 1) (cap - 1)) wx := fun wx => by
      have := run_lo98 (some ⟨g, 0, none⟩) n cap 1 (by omega) wx
      rwa [cutA_some _ _ _ _ (by omega) (by omega), Nat.zero_add] at this
    have HVW : Hid (∀ W : World, W.heap = w2.heap → Calls Try.prog 124 #[.slice (some ⟨g, 1, none⟩) (n - 1) (cap - 1), .slice (some ⟨g, 1, none⟩) (n - 1) (cap - 1), .int .u64 (C : Int)] W
        (AddWP W g cap 1 (n - 1) (N / Num.B64 ^ 1 + C) (wv (N + 1) 1 f) (Num.cy Num.B64 (N / Num.B64 ^ 1) C (n - 1)))) := Lib.hid fun W hW =>
      addVW_own g cap 1 (n - 1) (cap - 1) (N / Num.B64 ^ 1) C (wv (N + 1) 1 f) (by omega) (by omega) (by omega) hcm HC1.out (fun j hj => by
        unfold wv
        rw [if_neg (by omega), HFF.out (1 + j) (by omega), dg_add]) W (rowIs_heap HR2.out hW)
    have hC2 := Num.cy_le Num.B64_pos (N / Num.B64 ^ 1) C (n - 1)
    go_wp2_with fail
    go_region_held3 (fun X : World => True) (trivial)
      ((
        go_at_call 124
        refine Calls.mono (HVW.out _ rfl) ?_
        rintro e w3 ⟨rfl, hr3, hg3⟩))
    have HG3 : Hid (w.grownBy w3 (some g)) := Lib.hid (grown_heap HG2.out ⟨hg3.os, hg3.tape, hg3.output, hg3.size, hg3.block⟩)
    have HHI : Hid ((∀ j, j < n - 1 → Num.dg Num.B64 (N + 1) (1 + j) = Num.dg Num.B64 (N / Num.B64 ^ 1 + C) j) ∧ Num.dg Num.B64 (N + 1) n = Num.cy Num.B64 (N / Num.B64 ^ 1) C (n - 1)) := Lib.hid (by
      have := add_hi N 1 1 n hgt HNB.out h1b
      rw [HCC.out] at this
      exact this)
    have HHH : Hid (∀ j, j < n → (wo (N / Num.B64 ^ 1 + C) 1 (n - 1) (wv (N + 1) 1 f)) j = .int .u64 ((Num.dg Num.B64 (N + 1) j : Nat) : Int)) := by
      exact Lib.hid fun j hj => by
        show wo _ _ _ _ j = _
        unfold wo
        by_cases hjn : j < 1
        · rw [if_neg (by omega)]
          unfold wv
          rw [if_pos hjn]
        · rw [if_pos (by omega)]
          have := HHI.out.1 (j - 1) (by omega)
          rw [show 1 + (j - 1) = j by omega] at this
          rw [this]
    have hcl := hr3.cell (i := n) (by omega)
    have hfr := hr3.frozen n
    have hset := hr3.set n (.int .u64 ((Num.dg Num.B64 (N + 1) n : Nat) : Int))
    have hg4 := only_set HG3.out n (.int .u64 ((Num.dg Num.B64 (N + 1) n : Nat) : Int))
    have hf4 : ∀ j, j < n + 1 → (if j = n then Value.int .u64 ((Num.dg Num.B64 (N + 1) n : Nat) : Int) else (wo (N / Num.B64 ^ 1 + C) 1 (n - 1) (wv (N + 1) 1 f)) j) = .int .u64 ((Num.dg Num.B64 (N + 1) j : Nat) : Int) := fun j hj => by
      by_cases h : j = n
      · rw [if_pos h, h]
      · rw [if_neg h]; exact HHH.out j (by omega)
    have hSl := ww_row hset hf4 hnc (by unfold maxLen; omega)
    have hNO := norm_any (some ⟨g, 0, none⟩) cap (ww (N + 1) (n + 1)) (by simp [ww]; omega) _ hSl
    have hwl : (ww (N + 1) (n + 1)).length = n + 1 := by simp [ww]
    rw [hwl] at hNO
    have HRN := Lib.hid (OwnN.of_row hset hf4 hnc hc0 hcm HSM.out)
    have HNO := Lib.hid hNO
    have HG4 := Lib.hid hg4
    have hmI : (n : Int) < (n : Int) + 1 := by omega
    generalize hold : (wo (N / Num.B64 ^ 1 + C) 1 (n - 1) (wv (N + 1) 1 f)) n = old at hcl
    clear hset hg4 hf4 hSl hwl hold hr3 hg3
    rw [HHI.out.2] at HNO HRN HG4
    go_wp2_with fail
    refine (HNO.out).mono ?_
    rintro e w5 ⟨rfl, rfl⟩
    go_wp2_with fail
    go_ret
    exact ⟨_, rfl, HRN.out, HG4.out⟩
  · obtain rfl : n = 1 := by omega
    have HEQ : Hid (Num.dg Num.B64 (N + 1) 1 = C) := Lib.hid (by
      have := add_top N 1 1 HNB.out h1b
      rw [HCC.out] at this
      exact this)
    have hr2x := HR2.out
    have hcl := hr2x.cell (i := 1) (by omega)
    have hfr := hr2x.frozen 1
    have hset := hr2x.set 1 (.int .u64 ((Num.dg Num.B64 (N + 1) 1 : Nat) : Int))
    have hg4 := only_set HG2.out 1 (.int .u64 ((Num.dg Num.B64 (N + 1) 1 : Nat) : Int))
    have hf4 : ∀ j, j < 1 + 1 → (if j = 1 then Value.int .u64 ((Num.dg Num.B64 (N + 1) 1 : Nat) : Int) else (wv (N + 1) 1 f) j) = .int .u64 ((Num.dg Num.B64 (N + 1) j : Nat) : Int) := fun j hj => by
      by_cases h : j = 1
      · rw [if_pos h, h]
      · rw [if_neg h]
        unfold wv
        rw [if_pos (by omega)]
    have hSl := ww_row hset hf4 hnc (by unfold maxLen; omega)
    have hNO := norm_any (some ⟨g, 0, none⟩) cap (ww (N + 1) (1 + 1)) (by simp [ww]) _ hSl
    have hwl : (ww (N + 1) (1 + 1)).length = 1 + 1 := by simp [ww]
    rw [hwl] at hNO
    have HRN := Lib.hid (OwnN.of_row hset hf4 hnc hc0 hcm HSM.out)
    have HNO := Lib.hid hNO
    have HG4 := Lib.hid hg4
    generalize hold : (wv (N + 1) 1 f) 1 = old at hcl
    clear hset hg4 hf4 hSl hwl hold hr2x
    rw [HEQ.out] at HNO HRN HG4
    go_wp2_with fail
    refine (HNO.out).mono ?_
    rintro e w5 ⟨rfl, rfl⟩
    go_wp2_with fail
    go_ret
    exact ⟨_, rfl, HRN.out, HG4.out⟩
def RetInc (B : Nat) (w : World) (N : Nat) (e : Ending) (w' : World) : Prop :=
  ∃ A k ws, e = .returned (.slice A ws.length k) ∧ Sl w' A k (w64 ws) ∧ LW ws N ∧ Fr B A ∧ Below B w w'
theorem RetInc.of_row {B g cap N : Nat} {w w' : World} {e : Ending} (h : InRow w g cap N e w') (hB : B ≤ g) (hBw : B ≤ w.heap.size) : RetInc B w N e w' := by
  obtain ⟨n, rfl, ho, hg⟩ := h
  have hl : (ww N n).length = n := by simp [ww]
  refine ⟨some ⟨g, 0, none⟩, cap, ww N n, by rw [hl], ho.sl, ho.2.2.2.1, fun a ha => ?_, kept_of_only (Below.refl _ _) hg hB hBw⟩
  injection ha with ha
  subst ha
  exact ⟨hB, rfl, rfl⟩
theorem natInc_own (B g cap n N : Nat) (A1 : Option Addr) (c1 : Nat) (hn3 : n ≤ 100000) (w : World) (hB : B ≤ g) (hBw : B ≤ w.heap.size) (ho : OwnN w g cap n N) (ht : Sl w A1 c1 (w64 [1])) (hne : ∀ b off, A1 = some ⟨b, off, none⟩ → b ≠ g) :
    Calls Try.prog 102 #[.slice (some ⟨g, 0, none⟩) n cap, .slice (some ⟨g, 0, none⟩) n cap, .slice A1 1 c1] w (RetInc B w (N + 1)) := by
  by_cases h0 : n = 0
  · subst h0
    have hN : N = 0 := by
      have h1 := ho.2.2.2.1.2
      have h2 : ww N 0 = [] := rfl
      rw [h2] at h1
      exact h1.symm
    subst hN
    exact (natInc_empty g cap A1 c1 w ho ht).mono fun e w' h => RetInc.of_row h hB hBw
  · by_cases hc : n + 1 ≤ cap
    · exact (natInc_in g cap n N (by omega) hc A1 c1 w ho ht hne).mono fun e w' h => RetInc.of_row h hB hBw
    · have hl : (ww N n).length = n := by simp [ww]
      have hlw := ho.2.2.2.1
      have h := natAddG_core (some ⟨g, 0, none⟩) n cap (some ⟨g, 0, none⟩) A1 cap c1 (ww N n) [1] (by rw [hl]; omega) (by simp) (by rw [hl]; simp; omega) (by rw [hl]; exact hn3) hlw.1.1 one_lt w ho.sl ht
      rw [hl, hlw.2, le_one] at h
      refine h.mono fun e w' hr => ?_
      obtain ⟨A, k, ws, rfl, hs, hf, hlw', hk⟩ := hr
      exact ⟨A, k, ws, rfl, hs, hlw', fun a ha => ⟨Nat.le_trans hBw (hf a ha).1, (hf a ha).2⟩, hk.mono hBw⟩
end Go.Proofs.Ytikjdibngkcpkaa
