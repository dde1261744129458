/- A word taken away. -/
import Derived.Test.YtamocmelhnmkeaaGreatW3
namespace Go.Proofs.YtamocmelhnmkeaaGreat
open Go.ChangeShapes Go.WideShapes Go.ChangeAt Go.RowKit
set_option linter.unusedVariables false
set_option maxRecDepth 100000 in
set_option maxHeartbeats 4000000 in
theorem subVW_any (g cap n L Lc : Nat) (A : Option Addr) (c : Nat) (xs : List Nat) (C D : Nat) (hDD : Num.le Num.B64 xs = D + C) (f : Nat → Value) (hL : 0 < L) (hLL : xs.length = L) (hLc : L ≤ Lc) (hcap : n + L ≤ cap) (hcap2 : cap ≤ 1000000) (hC : C ≤ 1) (hd : ∀ d ∈ xs, d < Num.B64)
    (w : World) (hr : w.rowIs g 229 cap f) (hs : Sl w A c (w64 xs)) (hne : ∀ b off, A = some ⟨b, off, none⟩ → b ≠ g) :
    Calls Tryz.prog 125 #[.slice (some ⟨g, n, none⟩) L Lc, .slice A L c, .int .u64 (C : Int)] w (AddWP w g cap n L D f (Num.cy Num.B64 D C L)) := by
  have hcc := hs.cap
  have hmx := hs.max
  rw [w64_len, hLL] at hcc
  obtain ⟨b, off, rfl, hcell⟩ := hs.at_ (w64_ne (by omega))
  have hbg := hne b off rfl
  have hX : ∀ j, j < L → w.cell? ⟨b, off + j, none⟩ = some (.int .u64 ((Num.dg Num.B64 (Num.le Num.B64 xs) j : Nat) : Int)) := fun j hj => by
    rw [Num.dg_le Num.B64 xs j hd, List.getD_eq_getElem?_getD, List.getElem?_eq_getElem (by omega), Option.getD_some]
    exact hcell j _ (w64_get xs j (by omega))
  generalize hXX : Num.le Num.B64 xs = X at *
  have HX : Hid (∀ (wr : World) j, j < L → w.grownBy wr (some g) → wr.cell? ⟨b, off + j, none⟩ = some (.int .u64 ((Num.dg Num.B64 X j : Nat) : Int))) := Lib.hid fun wr j hj hg => hg.cell (hX j hj) (by simpa using hbg)
  obtain ⟨jw, hjw, hj0⟩ := info_pw
  have HNE : Hid (∀ wr : World, wr.rowIs g 229 cap (wo D n 1 f) → w.grownBy wr (some g) → ∀ W : World, W.heap = wr.heap → (binOp .neq 256 (.pointer (some ⟨g, n, none⟩)) (.pointer (some ⟨b, off, none⟩))).run Tryz.prog W = .ok (.bool true) W) := Lib.hid fun wr h hg W hW => by
    obtain ⟨ca, h1, h2⟩ := row_block h (by omega)
    have hcx := HX.out wr 0 hL hg
    have hcx2 : W.cell? ⟨b, off, none⟩ = some (.int .u64 ((Num.dg Num.B64 X 0 : Nat) : Int)) := by
      have e : W.cell? ⟨b, off, none⟩ = wr.cell? ⟨b, off, none⟩ := by unfold World.cell?; rw [hW]
      rw [e]; exact hcx
    exact run_neq_cells Tryz.underlying256 hjw hj0 (fun e => hbg e.symm) (by rw [hW]; exact h1) h2 hcx2
  have HNE2 : Hid (∀ (wr : World) (i : Nat), wr.rowIs g 229 cap (wo D n i f) → w.grownBy wr (some g) → ∀ W : World, W.heap = wr.heap → (binOp .neq 256 (.pointer (some ⟨g, n, none⟩)) (.pointer (some ⟨b, off, none⟩))).run Tryz.prog W = .ok (.bool true) W) := Lib.hid fun wr i h hg W hW => by
    obtain ⟨ca, h1, h2⟩ := row_block h (by omega)
    have hcx := HX.out wr 0 hL hg
    have hcx2 : W.cell? ⟨b, off, none⟩ = some (.int .u64 ((Num.dg Num.B64 X 0 : Nat) : Int)) := by
      have e : W.cell? ⟨b, off, none⟩ = wr.cell? ⟨b, off, none⟩ := by unfold World.cell?; rw [hW]
      rw [e]; exact hcx
    exact run_neq_cells Tryz.underlying256 hjw hj0 (fun e => hbg e.symm) (by rw [hW]; exact h1) h2 hcx2
  have hx0 := hX 0 hL
  obtain ⟨hC0, hCj⟩ := dg_small hC
  have hst := Num.cy_step Num.B64_pos D C 0
  rw [← hDD, hC0, Num.cy_zero, Nat.add_zero] at hst
  have HDD := Lib.hid hDD
  have hz := Num.dg_lt Num.B64_pos D 0
  have hk1 := Num.cy_le Num.B64_pos D C 1
  have HADD := Lib.hid (bitsSub_any (Num.dg Num.B64 X 0) C 0 (Num.dg Num.B64 D 0) (Num.cy Num.B64 D C 1) (by omega) hk1 hz hst w)
  have hset := hr.set n (.int .u64 ((Num.dg Num.B64 D 0 : Nat) : Int))
  have hfun : (fun j => if j = n then Value.int .u64 ((Num.dg Num.B64 D 0 : Nat) : Int) else f j) = wo D n 1 f := by
    have := wo_set D n 0 f
    rwa [wo_zero] at this
  rw [hfun] at hset
  have hcl := hr.cell (i := n) (by omega)
  have hfr := hr.frozen n
  have hgs := only_set (World.grownBy.refl w (some g)) n (.int .u64 ((Num.dg Num.B64 D 0 : Nat) : Int))
  have HSET := Lib.hid hset
  have HGS := Lib.hid hgs
  have HCJ : Hid (∀ j, 1 ≤ j → Num.dg Num.B64 C j = 0) := Lib.hid hCj
  have HC1 := Lib.hid hC
  have hLne : ((L : Int) == 0) = false := by simp; omega
  have hLp : (0 : Int) < (L : Int) := by omega
  have hx0' : w.cell? ⟨b, off, none⟩ = some (.int .u64 ((Num.dg Num.B64 X 0 : Nat) : Int)) := hx0
  clear hs hne hcell hX hr hset hgs hfun hz hst hC0 hCj hx0 hjw hj0 hXX hd hLL hC hDD
  generalize hd0 : Num.dg Num.B64 X 0 = x0 at *
  generalize hz0 : Num.dg Num.B64 D 0 = z0 at *
  generalize hk : Num.cy Num.B64 D C 1 = k1 at *
  have HK := Lib.hid hk
  clear hd0 hz0 hk
  have hk01 : k1 = 0 ∨ k1 = 1 := by omega
  clear hk1
  rcases hk01 with rfl | rfl
  · go_enter Tryz.func125, Tryz.ntmps125
    go_wp2_with fail
    refine (HADD.out).mono ?_
    rintro e w1 ⟨rfl, rfl⟩
    go_wp2_with fail
    have hneq := fun nq : Nat => HNE.out _ HSET.out HGS.out ((w.setCell ⟨g, n, none⟩ (.int .u64 (z0 : Int))).drewN nq) rfl
    have hneq0 := HNE.out _ HSET.out HGS.out (w.setCell ⟨g, n, none⟩ (.int .u64 (z0 : Int))) rfl
    go_quiet (fail)
    go_wp2_with fail
    have hs1 : ∀ wx : World, (Instr.slice 111 (.slice (some ⟨g, n, none⟩) L Lc) (some (.int .i64 1)) none none).run Tryz.prog wx = .ok (.slice (cutA (some ⟨g, n, none⟩) 1 Lc) (L - 1) (Lc - 1)) wx := fun wx => run_from97 (some ⟨g, n, none⟩) L Lc 1 hL wx
    have hs2 : ∀ wx : World, (Instr.slice 111 (.slice (some ⟨b, off, none⟩) L c) (some (.int .i64 1)) none none).run Tryz.prog wx = .ok (.slice (cutA (some ⟨b, off, none⟩) 1 c) (L - 1) (c - 1)) wx := fun wx => run_from97 (some ⟨b, off, none⟩) L c 1 hL wx
    clear hneq hneq0
    go_region_held3 (fun X : World => True) (trivial)
      ((refine step_copy_row rfl (.tmp 40) (.tmp 42) 111 111 rfl 229 Tryz.underlying111 size_word _ _ _ _ _ _ (by rfl) (by rfl) g (n + 1) (L - 1) cap 229 (wo D n 1 f) (fun t => Value.int .u64 ((Num.dg Num.B64 X (1 + t) : Nat) : Int)) (rowIs_heap HSET.out rfl) (by exact (Nat.min_self _).symm)
          (fun h0 => ⟨cutA_some g n 1 Lc (by omega) (by omega), b, off + 1, cutA_some b off 1 c (by omega) (by omega), fun j hj => by
            have := HX.out (w.setCell ⟨g, n, none⟩ (.int .u64 (z0 : Int))) (1 + j) (by omega) HGS.out
            rw [← Nat.add_assoc] at this
            exact this⟩) (by omega) (fun _ _ => rfl) ?_
        intro w2 hr2 hg2))
    have hst := fun t => cy_stays D C 1 (by rw [Nat.pow_one]; have h1 := HC1.out; have h2 : Num.B64 = 18446744073709551616 := rfl; omega) HK.out t
    rw [wo_copy D X n 1 L f (by omega) (fun j h1 h2 => by have := (hst (j - 1)).1; rw [show 1 + (j - 1) = j by omega, ← HDD.out] at this; exact this.symm)] at hr2
    have hcL : Num.cy Num.B64 D C L = 0 := by have := (hst (L - 1)).2; rwa [show 1 + (L - 1) = L by omega] at this
    have HR2 := Lib.hid hr2
    have HG2 : Hid (w.grownBy w2 (some g)) := Lib.hid (grown_heap HGS.out (grown_heap (World.grownBy.refl _ _) ⟨hg2.os, hg2.tape, hg2.output, hg2.size, hg2.block⟩))
    have HCL := Lib.hid hcL
    clear hr2 hg2 hst hcL
    go_wp2_with fail
    go_ret
    exact ⟨by rw [HCL.out]; rfl, HR2.out, HG2.out⟩
  · go_enter Tryz.func125, Tryz.ntmps125
    go_wp2_with fail
    refine (HADD.out).mono ?_
    rintro e w1 ⟨rfl, rfl⟩
    go_wp2_with fail
    go_loopw [9] (fun iv wr => ∃ i : Nat, iv = .int .i64 i ∧ 1 ≤ i ∧ i ≤ L ∧ Hid (Num.cy Num.B64 D C i = 1) ∧ wr.rowIs g 229 cap (wo D n i f) ∧ w.grownBy wr (some g)) (fun iv _ => L - (intOf iv).toNat)
    case atStart => exact ⟨1, rfl, Nat.le_refl _, hL, HK, HSET.out, HGS.out⟩
    case round =>
      obtain ⟨i, rfl, hi1, hi, HCI, hri, hgi⟩ := hrel
      by_cases hlt : i < L
      · have hst := Num.cy_step Num.B64_pos D C i
        rw [← HDD.out, HCJ.out i hi1, HCI.out, Nat.add_zero] at hst
        have hz := Num.dg_lt Num.B64_pos D i
        have hx := Num.dg_lt Num.B64_pos X i
        have hk1 := Num.cy_le Num.B64_pos D C (i + 1)
        have hcx := HX.out wr i hlt hgi
        have hset := hri.set (n + i) (.int .u64 ((Num.dg Num.B64 D i : Nat) : Int))
        rw [wo_set] at hset
        have hcl2 := hri.cell (i := n + i) (by omega)
        have hfr2 := hri.frozen (n + i)
        have hgs := only_set hgi (n + i) (.int .u64 ((Num.dg Num.B64 D i : Nat) : Int))
        have HSETi := Lib.hid hset
        have HGSi := Lib.hid hgs
        have HNEi : Hid (∀ W : World, W.heap = (wr.setCell ⟨g, n + i, none⟩ (.int .u64 ((Num.dg Num.B64 D i : Nat) : Int))).heap → (binOp .neq 256 (.pointer (some ⟨g, n, none⟩)) (.pointer (some ⟨b, off, none⟩))).run Tryz.prog W = .ok (.bool true) W) := Lib.hid (HNE2.out _ _ HSETi.out HGSi.out)
        have i0 : (0 : Int) ≤ (i : Int) := by omega
        have i1 : (i : Int) < (L : Int) := by omega
        have hB : Num.B64 = 18446744073709551616 := rfl
        clear hset hgs hri hgi
        generalize hki : Num.cy Num.B64 D C (i + 1) = k2 at *
        generalize hxi : Num.dg Num.B64 X i = xi at *
        generalize hzi : Num.dg Num.B64 D i = zi at *
        generalize wo D n i f (n + i) = old at *
        have HKI := Lib.hid hki
        rw [hB] at hst hz hx
        clear hki hxi hzi hB
        have hcase : (k2 = 0 ∧ 0 < xi ∧ xi = zi + 1) ∨ (k2 = 1 ∧ xi = 0 ∧ zi = 18446744073709551615) := by omega
        have hxb := hx
        clear hst hz hx hk1
        rcases hcase with ⟨rfl, hx1, hx2⟩ | ⟨rfl, hx1, rfl⟩
        · subst hx2
          have ecast : ((zi + 1 : Nat) : Int) = (zi : Int) + 1 := by omega
          have q1 : (((zi : Int) + 1) != 0) = true := by simp; omega
          have q0 : (((zi + 1 : Nat) : Int) != 0) = true := by simp; omega
          have q2 : IntKind.u64.wrap ((zi : Int) + 1 - 1) = (zi : Int) := by rw [IntKind.wrap_u64]; omega
          have q2' : IntKind.u64.wrap ((zi : Int)) = (zi : Int) := by rw [IntKind.wrap_u64]; omega
          have q3 : (zi : Int) < 18446744073709551615 := by omega
          have q4 : IntKind.i64.wrap ((i : Int) + 1) = (i : Int) + 1 := by rw [IntKind.wrap_i64]; omega
          clear ecast hx1 hxb
          go_wp2_with fail
          have hneq := fun nq : Nat => HNEi.out ((wr.setCell ⟨g, n + i, none⟩ (.int .u64 (zi : Int))).drewN nq) rfl
          have hneq0 := HNEi.out (wr.setCell ⟨g, n + i, none⟩ (.int .u64 (zi : Int))) rfl
          go_quiet (fail)
          go_wp2_with fail
          have hs1 : ∀ wx : World, (Instr.slice 111 (.slice (some ⟨g, n, none⟩) L Lc) (some (.int .i64 ((i : Int) + 1))) none none).run Tryz.prog wx = .ok (.slice (cutA (some ⟨g, n, none⟩) (i + 1) Lc) (L - (i + 1)) (Lc - (i + 1))) wx := fun wx => run_from97 (some ⟨g, n, none⟩) L Lc (i + 1) hlt wx
          have hs2 : ∀ wx : World, (Instr.slice 111 (.slice (some ⟨b, off, none⟩) L c) (some (.int .i64 ((i : Int) + 1))) none none).run Tryz.prog wx = .ok (.slice (cutA (some ⟨b, off, none⟩) (i + 1) c) (L - (i + 1)) (c - (i + 1))) wx := fun wx => run_from97 (some ⟨b, off, none⟩) L c (i + 1) hlt wx
          clear hneq hneq0
          go_region_held3 (fun X : World => True) (trivial)
            ((refine step_copy_row rfl (.tmp 69) (.tmp 73) 111 111 rfl 229 Tryz.underlying111 size_word _ _ _ _ _ _ (by rfl) (by rfl) g (n + (i + 1)) (L - (i + 1)) cap 229 (wo D n (i + 1) f) (fun t => Value.int .u64 ((Num.dg Num.B64 X (i + 1 + t) : Nat) : Int)) (rowIs_heap HSETi.out rfl) (by exact (Nat.min_self _).symm)
                (fun h0 => ⟨cutA_some g n (i + 1) Lc (by omega) (by omega), b, off + (i + 1), cutA_some b off (i + 1) c (by omega) (by omega), fun j hj => by
                  have := HX.out (wr.setCell ⟨g, n + i, none⟩ (.int .u64 (zi : Int))) (i + 1 + j) (by omega) HGSi.out
                  rw [← Nat.add_assoc off (i + 1) j] at this
                  exact this⟩) (by omega) (fun _ _ => rfl) ?_
              intro w2 hr2 hg2))
          have hst := fun t => cy_stays D C (i + 1) (by
            have h1 := HC1.out
            have h2 : Num.B64 = 18446744073709551616 := rfl
            have h3 : Num.B64 ^ 1 ≤ Num.B64 ^ (i + 1) := Nat.pow_le_pow_right Num.B64_pos (by omega)
            rw [Nat.pow_one] at h3
            omega) HKI.out t
          rw [wo_copy D X n (i + 1) L f (by omega) (fun j h1 h2 => by have := (hst (j - (i + 1))).1; rw [show i + 1 + (j - (i + 1)) = j by omega, ← HDD.out] at this; exact this.symm)] at hr2
          have hcL : Num.cy Num.B64 D C L = 0 := by have := (hst (L - (i + 1))).2; rwa [show i + 1 + (L - (i + 1)) = L by omega] at this
          have HR2 := Lib.hid hr2
          have HG2 : Hid (w.grownBy w2 (some g)) := Lib.hid (grown_heap HGSi.out (grown_heap (World.grownBy.refl _ _) ⟨hg2.os, hg2.tape, hg2.output, hg2.size, hg2.block⟩))
          have HCL := Lib.hid hcL
          clear hr2 hg2 hst hcL
          go_wp2_with fail
          go_ret
          exact ⟨by rw [HCL.out]; rfl, HR2.out, HG2.out⟩
        · subst hx1
          go_wp2_with fail
          exact ⟨⟨i + 1, by go_num, by omega, hlt, HKI, HSETi.out, HGSi.out⟩, by simp [intOf]; omega⟩
      · obtain rfl : i = L := by omega
        go_wp2_with fail
        go_ret
        exact ⟨by rw [HCI.out]; rfl, hri, hgi⟩
end Go.Proofs.YtamocmelhnmkeaaGreat
