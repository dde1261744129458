/- A word added. -/
import Derived.Test.YtamocmelhnmkeaaGreatW2
namespace Go.Proofs.YtamocmelhnmkeaaGreat
open Go.ChangeShapes Go.WideShapes Go.ChangeAt Go.RowKit
set_option linter.unusedVariables false
theorem dg_small {C : Nat} (hC : C ≤ 1) : Num.dg Num.B64 C 0 = C ∧ ∀ j, 1 ≤ j → Num.dg Num.B64 C j = 0 := by
  have hB : Num.B64 = 18446744073709551616 := rfl
  refine ⟨by unfold Num.dg; rw [Nat.pow_zero, Nat.div_one, Nat.mod_eq_of_lt (by omega)], fun j hj => ?_⟩
  unfold Num.dg
  have h1 : Num.B64 ^ 1 ≤ Num.B64 ^ j := Nat.pow_le_pow_right Num.B64_pos hj
  rw [Nat.pow_one] at h1
  rw [Nat.div_eq_of_lt (by omega), Nat.zero_mod]
/-- once nothing is carried, the digits stay -/
theorem cy_stays {b : Nat} (X C j : Nat) (hC : C < b ^ j) (h : Num.cy b X C j = 0) (t : Nat) : Num.dg b (X + C) (j + t) = Num.dg b X (j + t) ∧ Num.cy b X C (j + t) = 0 := by
  have hP : 0 < b ^ j := by omega
  unfold Num.cy at h
  rw [Nat.mod_eq_of_lt hC] at h
  have hlt : X % b ^ j + C < b ^ j := by
    rcases Nat.lt_or_ge (X % b ^ j + C) (b ^ j) with h1 | h1
    · exact h1
    · have := Nat.div_pos h1 hP; omega
  have hd := Nat.div_add_mod X (b ^ j)
  have hq : (X + C) / b ^ j = X / b ^ j := by
    have e : X + C = b ^ j * (X / b ^ j) + (X % b ^ j + C) := by omega
    rw [e, Nat.mul_add_div hP, Nat.div_eq_of_lt hlt, Nat.add_zero]
  constructor
  · unfold Num.dg
    rw [Nat.pow_add, ← Nat.div_div_eq_div_mul, ← Nat.div_div_eq_div_mul, hq]
  · unfold Num.cy
    rw [Nat.pow_add, Nat.mod_mul, Nat.div_eq_zero_iff]
    rcases Nat.eq_zero_or_pos (b ^ t) with h0 | h0
    · left; rw [h0, Nat.mul_zero]
    · right
      have h1 := Nat.mod_lt (X / b ^ j) h0
      have h2 : C % (b ^ j * b ^ t) = C := Nat.mod_eq_of_lt (Nat.lt_of_lt_of_le hC (Nat.le_mul_of_pos_right _ h0))
      rw [h2]
      have h3 := Nat.mul_le_mul_left (b ^ j) (show X / b ^ j % b ^ t + 1 ≤ b ^ t by omega)
      rw [Nat.mul_add, Nat.mul_one] at h3
      omega
/-- the row when i words from place n on are those of S -/
def wo (S n i : Nat) (f : Nat → Value) (j : Nat) : Value := if n ≤ j ∧ j < n + i then .int .u64 ((Num.dg Num.B64 S (j - n) : Nat) : Int) else f j
theorem wo_set (S n i : Nat) (f : Nat → Value) : (fun j => if j = n + i then Value.int .u64 ((Num.dg Num.B64 S i : Nat) : Int) else wo S n i f j) = wo S n (i + 1) f := by
  funext j
  unfold wo
  by_cases h : j = n + i
  · subst h; rw [if_pos rfl, if_pos (by omega)]; congr 3; omega
  · rw [if_neg h]
    by_cases h2 : n ≤ j ∧ j < n + i
    · rw [if_pos h2, if_pos (by omega)]
    · rw [if_neg h2, if_neg (by omega)]
theorem wo_zero (S n : Nat) (f : Nat → Value) : wo S n 0 f = f := by funext j; unfold wo; rw [if_neg (by omega)]
/-- the rest of the row is copied -/
theorem wo_copy (S X n i L : Nat) (f : Nat → Value) (hi : i ≤ L) (h : ∀ j, i ≤ j → j < L → Num.dg Num.B64 S j = Num.dg Num.B64 X j) :
    (fun j => if n + i ≤ j ∧ j < n + i + (L - i) then (fun t => Value.int .u64 ((Num.dg Num.B64 X (i + t) : Nat) : Int)) (j - (n + i)) else wo S n i f j) = wo S n L f := by
  funext j
  unfold wo
  by_cases h1 : n + i ≤ j ∧ j < n + i + (L - i)
  · rw [if_pos h1, if_pos (by omega)]
    show Value.int .u64 ((Num.dg Num.B64 X (i + (j - (n + i))) : Nat) : Int) = _
    rw [show i + (j - (n + i)) = j - n by omega, h (j - n) (by omega) (by omega)]
  · rw [if_neg h1]
    by_cases h2 : n ≤ j ∧ j < n + i
    · rw [if_pos h2, if_pos (by omega)]
    · rw [if_neg h2, if_neg (by omega)]
theorem run_from97 (A : Option Addr) (n c k : Nat) (hk : k ≤ n) (wx : World) :
    (Instr.slice 111 (.slice A n c) (some (.int .i64 (k : Int))) none none).run Tryz.prog wx = .ok (.slice (cutA A k c) (n - k) (c - k)) wx := by
  have h1 : (k : Int) ≤ (n : Int) := by omega
  simp [go_sem, cutA, Tryz.underlying111, h1]
theorem cutA_some (b off k c : Nat) (hk : 0 < k) (hc : c ≠ k) : cutA (some ⟨b, off, none⟩) k c = some ⟨b, off + k, none⟩ := by
  unfold cutA
  rw [if_neg hc]
  have h0 : k ≠ 0 := by omega
  simp [Addr.add, h0]
theorem rowIs_heap {w w' : World} {b : Nat} {t : TypeId} {n : Nat} {f : Nat → Value} (h : w.rowIs b t n f) (e : w'.heap = w.heap) : w'.rowIs b t n f := by
  obtain ⟨c, h1, h2⟩ := h
  exact ⟨c, by rw [e]; exact h1, h2⟩
theorem grown_heap {w wr W : World} {row : Option Nat} (h : w.grownBy wr row) (hk : wr.grownBy W row) : w.grownBy W row :=
  ⟨hk.os.trans h.os, hk.tape.trans h.tape, hk.output.trans h.output, Nat.le_trans h.size hk.size, fun k hk1 hne => (hk.block k (Nat.lt_of_lt_of_le hk1 h.size) hne).trans (h.block k hk1 hne)⟩
def AddWP (w : World) (g cap n L S : Nat) (f : Nat → Value) (k : Nat) (e : Ending) (w' : World) : Prop := e = .returned (.int .u64 (k : Int)) ∧ w'.rowIs g 229 cap (wo S n L f) ∧ w.grownBy w' (some g)
theorem info_pw : ∃ j, Tryz.prog.info? 229 = some j ∧ j.size ≠ 0 := by
  have h : (Tryz.prog.info? 229).map (·.size) = some 1 := by kernel_rfl
  cases hq : Tryz.prog.info? 229 with
  | none => rw [hq] at h; cases h
  | some j => rw [hq] at h; exact ⟨j, rfl, by have : j.size = 1 := by simpa using h
                                              omega⟩
theorem row_block {w : World} {g cap : Nat} {t : TypeId} {f : Nat → Value} (h : w.rowIs g t cap f) (hc : 0 < cap) : ∃ ca, w.heap[g]? = some (.cells ca t (0, 0)) ∧ 0 < ca.size := by
  obtain ⟨c, h1, h2, _⟩ := h
  exact ⟨c, h1, by omega⟩
set_option maxRecDepth 100000 in
set_option maxHeartbeats 4000000 in
/-- x and z in different blocks -/
theorem addVW_any (g cap n L Lc : Nat) (A : Option Addr) (c : Nat) (xs : List Nat) (C : Nat) (f : Nat → Value) (hL : 0 < L) (hLL : xs.length = L) (hLc : L ≤ Lc) (hcap : n + L ≤ cap) (hcap2 : cap ≤ 1000000) (hC : C ≤ 1) (hd : ∀ d ∈ xs, d < Num.B64)
    (w : World) (hr : w.rowIs g 229 cap f) (hs : Sl w A c (w64 xs)) (hne : ∀ b off, A = some ⟨b, off, none⟩ → b ≠ g) :
    Calls Tryz.prog 123 #[.slice (some ⟨g, n, none⟩) L Lc, .slice A L c, .int .u64 (C : Int)] w (AddWP w g cap n L (Num.le Num.B64 xs + C) f (Num.cy Num.B64 (Num.le Num.B64 xs) C L)) := by
  have hcc := hs.cap
  have hmx := hs.max
  rw [w64_len, hLL] at hcc
  obtain ⟨b, off, rfl, hcell⟩ := hs.at_ (w64_ne (by omega))
  have hbg := hne b off rfl
  have hX : ∀ j, j < L → w.cell? ⟨b, off + j, none⟩ = some (.int .u64 ((Num.dg Num.B64 (Num.le Num.B64 xs) j : Nat) : Int)) := fun j hj => by
    rw [Num.dg_le Num.B64 xs j hd, List.getD_eq_getElem?_getD, List.getElem?_eq_getElem (by omega), Option.getD_some]
    exact hcell j _ (w64_get xs j (by omega))
  generalize hXX : Num.le Num.B64 xs = X at *
  have HX : Hid (∀ (wr : World) j, j < L → w.grownBy wr (some g) → wr.cell? ⟨b, off + j, none⟩ = some (.int .u64 ((Num.dg Num.B64 X j : Nat) : Int))) := Lib.hid fun wr j hj hg => hg.cell (hX j hj) (by simpa using hbg)
  obtain ⟨jw, hjw, hj0⟩ := info_pw
  have HNE : Hid (∀ wr : World, wr.rowIs g 229 cap (wo (X + C) n 1 f) → w.grownBy wr (some g) → ∀ W : World, W.heap = wr.heap → (binOp .neq 256 (.pointer (some ⟨g, n, none⟩)) (.pointer (some ⟨b, off, none⟩))).run Tryz.prog W = .ok (.bool true) W) := Lib.hid fun wr h hg W hW => by
    obtain ⟨ca, h1, h2⟩ := row_block h (by omega)
    have hcx := HX.out wr 0 hL hg
    have hcx2 : W.cell? ⟨b, off, none⟩ = some (.int .u64 ((Num.dg Num.B64 X 0 : Nat) : Int)) := by
      have e : W.cell? ⟨b, off, none⟩ = wr.cell? ⟨b, off, none⟩ := by unfold World.cell?; rw [hW]
      rw [e]; exact hcx
    exact run_neq_cells Tryz.underlying256 hjw hj0 (fun e => hbg e.symm) (by rw [hW]; exact h1) h2 hcx2
  have HNE2 : Hid (∀ (wr : World) (i : Nat), wr.rowIs g 229 cap (wo (X + C) n i f) → w.grownBy wr (some g) → ∀ W : World, W.heap = wr.heap → (binOp .neq 256 (.pointer (some ⟨g, n, none⟩)) (.pointer (some ⟨b, off, none⟩))).run Tryz.prog W = .ok (.bool true) W) := Lib.hid fun wr i h hg W hW => by
    obtain ⟨ca, h1, h2⟩ := row_block h (by omega)
    have hcx := HX.out wr 0 hL hg
    have hcx2 : W.cell? ⟨b, off, none⟩ = some (.int .u64 ((Num.dg Num.B64 X 0 : Nat) : Int)) := by
      have e : W.cell? ⟨b, off, none⟩ = wr.cell? ⟨b, off, none⟩ := by unfold World.cell?; rw [hW]
      rw [e]; exact hcx
    exact run_neq_cells Tryz.underlying256 hjw hj0 (fun e => hbg e.symm) (by rw [hW]; exact h1) h2 hcx2
  have hx0 := hX 0 hL
  obtain ⟨hC0, hCj⟩ := dg_small hC
  have hst := Num.cy_step Num.B64_pos X C 0
  rw [hC0, Num.cy_zero, Nat.add_zero] at hst
  have hz := Num.dg_lt Num.B64_pos (X + C) 0
  have hk1 := Num.cy_le Num.B64_pos X C 1
  have HADD := Lib.hid (bitsAdd_any (Num.dg Num.B64 X 0) C 0 (Num.dg Num.B64 (X + C) 0) (Num.cy Num.B64 X C 1) (by omega) hz hst w)
  have hset := hr.set n (.int .u64 ((Num.dg Num.B64 (X + C) 0 : Nat) : Int))
  have hfun : (fun j => if j = n then Value.int .u64 ((Num.dg Num.B64 (X + C) 0 : Nat) : Int) else f j) = wo (X + C) n 1 f := by
    have := wo_set (X + C) n 0 f
    rwa [wo_zero] at this
  rw [hfun] at hset
  have hcl := hr.cell (i := n) (by omega)
  have hfr := hr.frozen n
  have hgs := only_set (World.grownBy.refl w (some g)) n (.int .u64 ((Num.dg Num.B64 (X + C) 0 : Nat) : Int))
  have HSET := Lib.hid hset
  have HGS := Lib.hid hgs
  have HCJ : Hid (∀ j, 1 ≤ j → Num.dg Num.B64 C j = 0) := Lib.hid hCj
  have HC1 := Lib.hid hC
  have hLne : ((L : Int) == 0) = false := by simp; omega
  have hLp : (0 : Int) < (L : Int) := by omega
  have hx0' : w.cell? ⟨b, off, none⟩ = some (.int .u64 ((Num.dg Num.B64 X 0 : Nat) : Int)) := hx0
  clear hs hne hcell hX hr hset hgs hfun hz hst hC0 hCj hx0 hjw hj0 hXX hd hLL hC
  generalize hd0 : Num.dg Num.B64 X 0 = x0 at *
  generalize hz0 : Num.dg Num.B64 (X + C) 0 = z0 at *
  generalize hk : Num.cy Num.B64 X C 1 = k1 at *
  have HK := Lib.hid hk
  clear hd0 hz0 hk
  have hk01 : k1 = 0 ∨ k1 = 1 := by omega
  clear hk1
  rcases hk01 with rfl | rfl
  · go_enter Tryz.func123, Tryz.ntmps123
    go_wp2_with fail
    refine (HADD.out).mono ?_
    rintro e w1 ⟨rfl, rfl⟩
    go_wp2_with fail
    have hneq := fun nq : Nat => HNE.out _ HSET.out HGS.out ((w.setCell ⟨g, n, none⟩ (.int .u64 (z0 : Int))).drewN nq) rfl
    have hneq0 := HNE.out _ HSET.out HGS.out (w.setCell ⟨g, n, none⟩ (.int .u64 (z0 : Int))) rfl
    go_quiet (fail)
    go_wp2_with fail
    have hs1 : ∀ wx : World, (Instr.slice 111 (.slice (some ⟨g, n, none⟩) L Lc) (some (.int .i64 1)) none none).run Tryz.prog wx = .ok (.slice (cutA (some ⟨g, n, none⟩) 1 Lc) (L - 1) (Lc - 1)) wx := fun wx => run_from97 (some ⟨g, n, none⟩) L Lc 1 hL wx
    have hs2 : ∀ wx : World, (Instr.slice 111 (.slice (some ⟨b, off, none⟩) L c) (some (.int .i64 1)) none none).run Tryz.prog wx = .ok (.slice (cutA (some ⟨b, off, none⟩) 1 c) (L - 1) (c - 1)) wx := fun wx => run_from97 (some ⟨b, off, none⟩) L c 1 hL wx
    clear hneq hneq0
    go_region_held3 (fun X : World => True) (trivial)
      ((refine step_copy_row rfl (.tmp 40) (.tmp 42) 111 111 rfl 229 Tryz.underlying111 size_word _ _ _ _ _ _ (by rfl) (by rfl) g (n + 1) (L - 1) cap 229 (wo (X + C) n 1 f) (fun t => Value.int .u64 ((Num.dg Num.B64 X (1 + t) : Nat) : Int)) (rowIs_heap HSET.out rfl) (by exact (Nat.min_self _).symm)
          (fun h0 => ⟨cutA_some g n 1 Lc (by omega) (by omega), b, off + 1, cutA_some b off 1 c (by omega) (by omega), fun j hj => by
            have := HX.out (w.setCell ⟨g, n, none⟩ (.int .u64 (z0 : Int))) (1 + j) (by omega) HGS.out
            rw [← Nat.add_assoc] at this
            exact this⟩) (by omega) (fun _ _ => rfl) ?_
        intro w2 hr2 hg2))
    have hst := fun t => cy_stays X C 1 (by rw [Nat.pow_one]; have h1 := HC1.out; have h2 : Num.B64 = 18446744073709551616 := rfl; omega) HK.out t
    rw [wo_copy (X + C) X n 1 L f (by omega) (fun j h1 h2 => by have := (hst (j - 1)).1; rwa [show 1 + (j - 1) = j by omega] at this)] at hr2
    have hcL : Num.cy Num.B64 X C L = 0 := by have := (hst (L - 1)).2; rwa [show 1 + (L - 1) = L by omega] at this
    have HR2 := Lib.hid hr2
    have HG2 : Hid (w.grownBy w2 (some g)) := Lib.hid (grown_heap HGS.out (grown_heap (World.grownBy.refl _ _) ⟨hg2.os, hg2.tape, hg2.output, hg2.size, hg2.block⟩))
    have HCL := Lib.hid hcL
    clear hr2 hg2 hst hcL
    go_wp2_with fail
    go_ret
    exact ⟨by rw [HCL.out]; rfl, HR2.out, HG2.out⟩
  · go_enter Tryz.func123, Tryz.ntmps123
    go_wp2_with fail
    refine (HADD.out).mono ?_
    rintro e w1 ⟨rfl, rfl⟩
    go_wp2_with fail
    go_loopw [9] (fun iv wr => ∃ i : Nat, iv = .int .i64 i ∧ 1 ≤ i ∧ i ≤ L ∧ Hid (Num.cy Num.B64 X C i = 1) ∧ wr.rowIs g 229 cap (wo (X + C) n i f) ∧ w.grownBy wr (some g)) (fun iv _ => L - (intOf iv).toNat)
    case atStart => exact ⟨1, rfl, Nat.le_refl _, hL, HK, HSET.out, HGS.out⟩
    case round =>
      obtain ⟨i, rfl, hi1, hi, HCI, hri, hgi⟩ := hrel
      by_cases hlt : i < L
      · have hst := Num.cy_step Num.B64_pos X C i
        rw [HCJ.out i hi1, HCI.out, Nat.add_zero] at hst
        have hz := Num.dg_lt Num.B64_pos (X + C) i
        have hx := Num.dg_lt Num.B64_pos X i
        have hk1 := Num.cy_le Num.B64_pos X C (i + 1)
        have hcx := HX.out wr i hlt hgi
        have hset := hri.set (n + i) (.int .u64 ((Num.dg Num.B64 (X + C) i : Nat) : Int))
        rw [wo_set] at hset
        have hcl2 := hri.cell (i := n + i) (by omega)
        have hfr2 := hri.frozen (n + i)
        have hgs := only_set hgi (n + i) (.int .u64 ((Num.dg Num.B64 (X + C) i : Nat) : Int))
        have HSETi := Lib.hid hset
        have HGSi := Lib.hid hgs
        have HNEi : Hid (∀ W : World, W.heap = (wr.setCell ⟨g, n + i, none⟩ (.int .u64 ((Num.dg Num.B64 (X + C) i : Nat) : Int))).heap → (binOp .neq 256 (.pointer (some ⟨g, n, none⟩)) (.pointer (some ⟨b, off, none⟩))).run Tryz.prog W = .ok (.bool true) W) := Lib.hid (HNE2.out _ _ HSETi.out HGSi.out)
        have i0 : (0 : Int) ≤ (i : Int) := by omega
        have i1 : (i : Int) < (L : Int) := by omega
        have hB : Num.B64 = 18446744073709551616 := rfl
        clear hset hgs hri hgi
        generalize hki : Num.cy Num.B64 X C (i + 1) = k2 at *
        generalize hxi : Num.dg Num.B64 X i = xi at *
        generalize hzi : Num.dg Num.B64 (X + C) i = zi at *
        generalize wo (X + C) n i f (n + i) = old at *
        have HKI := Lib.hid hki
        rw [hB] at hst hz hx
        clear hki hxi hzi hB
        have hcase : (k2 = 0 ∧ xi < 18446744073709551615 ∧ zi = xi + 1) ∨ (k2 = 1 ∧ xi = 18446744073709551615 ∧ zi = 0) := by omega
        clear hst hz hx hk1
        rcases hcase with ⟨rfl, hx1, rfl⟩ | ⟨rfl, hx1, rfl⟩
        · have q1 : ((xi : Int) != 18446744073709551615) = true := by simp; omega
          have q2 : IntKind.u64.wrap ((xi : Int) + 1) = (xi : Int) + 1 := by rw [IntKind.wrap_u64]; omega
          have q3 : (xi : Int) < 18446744073709551615 := by omega
          have q4 : IntKind.i64.wrap ((i : Int) + 1) = (i : Int) + 1 := by rw [IntKind.wrap_i64]; omega
          have ecast : ((xi + 1 : Nat) : Int) = (xi : Int) + 1 := by omega
          rw [ecast] at HSETi HGSi HNEi
          clear ecast hx1
          go_wp2_with fail
          have hneq := fun nq : Nat => HNEi.out ((wr.setCell ⟨g, n + i, none⟩ (.int .u64 ((xi : Int) + 1))).drewN nq) rfl
          have hneq0 := HNEi.out (wr.setCell ⟨g, n + i, none⟩ (.int .u64 ((xi : Int) + 1))) rfl
          go_quiet (fail)
          go_wp2_with fail
          have hs1 : ∀ wx : World, (Instr.slice 111 (.slice (some ⟨g, n, none⟩) L Lc) (some (.int .i64 ((i : Int) + 1))) none none).run Tryz.prog wx = .ok (.slice (cutA (some ⟨g, n, none⟩) (i + 1) Lc) (L - (i + 1)) (Lc - (i + 1))) wx := fun wx => run_from97 (some ⟨g, n, none⟩) L Lc (i + 1) hlt wx
          have hs2 : ∀ wx : World, (Instr.slice 111 (.slice (some ⟨b, off, none⟩) L c) (some (.int .i64 ((i : Int) + 1))) none none).run Tryz.prog wx = .ok (.slice (cutA (some ⟨b, off, none⟩) (i + 1) c) (L - (i + 1)) (c - (i + 1))) wx := fun wx => run_from97 (some ⟨b, off, none⟩) L c (i + 1) hlt wx
          clear hneq hneq0
          go_region_held3 (fun X : World => True) (trivial)
            ((refine step_copy_row rfl (.tmp 69) (.tmp 73) 111 111 rfl 229 Tryz.underlying111 size_word _ _ _ _ _ _ (by rfl) (by rfl) g (n + (i + 1)) (L - (i + 1)) cap 229 (wo (X + C) n (i + 1) f) (fun t => Value.int .u64 ((Num.dg Num.B64 X (i + 1 + t) : Nat) : Int)) (rowIs_heap HSETi.out rfl) (by exact (Nat.min_self _).symm)
                (fun h0 => ⟨cutA_some g n (i + 1) Lc (by omega) (by omega), b, off + (i + 1), cutA_some b off (i + 1) c (by omega) (by omega), fun j hj => by
                  have := HX.out (wr.setCell ⟨g, n + i, none⟩ (.int .u64 ((xi : Int) + 1))) (i + 1 + j) (by omega) HGSi.out
                  rw [← Nat.add_assoc off (i + 1) j] at this
                  exact this⟩) (by omega) (fun _ _ => rfl) ?_
              intro w2 hr2 hg2))
          have hst := fun t => cy_stays X C (i + 1) (by
            have h1 := HC1.out
            have h2 : Num.B64 = 18446744073709551616 := rfl
            have h3 : Num.B64 ^ 1 ≤ Num.B64 ^ (i + 1) := Nat.pow_le_pow_right Num.B64_pos (by omega)
            rw [Nat.pow_one] at h3
            omega) HKI.out t
          rw [wo_copy (X + C) X n (i + 1) L f (by omega) (fun j h1 h2 => by have := (hst (j - (i + 1))).1; rwa [show i + 1 + (j - (i + 1)) = j by omega] at this)] at hr2
          have hcL : Num.cy Num.B64 X C L = 0 := by have := (hst (L - (i + 1))).2; rwa [show i + 1 + (L - (i + 1)) = L by omega] at this
          have HR2 := Lib.hid hr2
          have HG2 : Hid (w.grownBy w2 (some g)) := Lib.hid (grown_heap HGSi.out (grown_heap (World.grownBy.refl _ _) ⟨hg2.os, hg2.tape, hg2.output, hg2.size, hg2.block⟩))
          have HCL := Lib.hid hcL
          clear hr2 hg2 hst hcL
          go_wp2_with fail
          go_ret
          exact ⟨by rw [HCL.out]; rfl, HR2.out, HG2.out⟩
        · subst hx1
          go_wp2_with fail
          exact ⟨⟨i + 1, by go_num, by omega, hlt, HKI, HSETi.out, HGSi.out⟩, by simp [intOf]; omega⟩
      · obtain rfl : i = L := by omega
        go_wp2_with fail
        go_ret
        exact ⟨by rw [HCI.out]; rfl, hri, hgi⟩
end Go.Proofs.YtamocmelhnmkeaaGreat
