/- A big float that is exact stays as it is when it is rounded. -/
import Derived.Test.YtnheiigdgklbcaaF4
import Derived.Deep.RegionHeld3
import Derived.Laws.BitsAllLaws
namespace Go.Proofs.Ytnheiigdgklbcaa
open Go.ChangeShapes Go.WideShapes Go.ChangeAt Go.RowKit
set_option linter.unusedVariables false
theorem dg0_shift (N s : Nat) (hs : s < 64) : Num.dg Num.B64 (N * 2 ^ s) 0 = N % 2 ^ (64 - s) * 2 ^ s := by
  unfold Num.dg
  rw [Nat.pow_zero, Nat.div_one, show Num.B64 = 2 ^ (64 - s) * 2 ^ s by rw [← Nat.pow_add, show 64 - s + s = 64 by omega]; decide, Nat.mul_mod_mul_right]
/-- nothing but the block g and the row gr has changed, and these read as before -/
def SameP (w : World) (g gr cap n X : Nat) (pr : Int) (ng : Bool) (ex : Int) (e : Ending) (w' : World) : Prop :=
  e = .returned (.tuple #[]) ∧ FB w' g pr 0 1 ng (.slice (some ⟨gr, 0, none⟩) n cap) ex ∧ Rw w' gr cap n X ∧ Two g gr w w'
set_option maxRecDepth 100000 in
set_option maxHeartbeats 4000000 in
/-- a float that is exact stays as it is: of W + 1 words, the lowest s bits 0, at 64 W + 64 - s bits of precision; or of one word at 64 -/
theorem round_same (g gr cap W N s : Nat) (pr : Int) (hs : s < 64) (hpr : (pr = 64 * (W : Int) + 64 - (s : Int) ∨ (W = 0 ∧ pr = 64))) (ng : Bool) (ac ex : Int) (hne : g ≠ gr) (hW : W + 1 ≤ cap) (hcap : cap ≤ 1000000) (w : World)
    (hf : FB w g pr ac 1 ng (.slice (some ⟨gr, 0, none⟩) (W + 1) cap) ex) (hr : Rw w gr cap (W + 1) (N * 2 ^ s)) :
    Calls Try.prog 70 #[.pointer (some ⟨g, 0, none⟩), .int .u64 0] w (SameP w g gr cap (W + 1) (N * 2 ^ s) pr ng ex) := by
  obtain ⟨c0, c1, c2, c3, c4, c5, c6⟩ := hf.cells
  have fz2 := Blk.frozen hf 2
  have hf1 := hf.acc 0
  obtain ⟨d0, d1, d2, d3, d4, d5, d6⟩ := hf1.cells
  have hr1 := hr.far (set_grown w g 2 (.int .i8 0)) (fun e => hne e.symm)
  have ht1 := (Two.refl g gr w).set1 2 (.int .i8 0)
  have hWI : (W : Int) ≤ 999999 := by omega
  have w0 : (0 : Int) ≤ (W : Int) := by omega
  have u1 : IntKind.u32.wrap ((W : Int) + 1) = (W : Int) + 1 := by rw [IntKind.wrap_u32]; omega
  have u2 : IntKind.u32.wrap (((W : Int) + 1) * 64) = ((W : Int) + 1) * 64 := by rw [IntKind.wrap_u32]; omega
  by_cases hle : ((W : Int) + 1) * 64 ≤ pr
  · have FIN : Hid (SameP w g gr cap (W + 1) (N * 2 ^ s) pr ng ex (.returned (.tuple #[])) (w.setCell ⟨g, 2, none⟩ (.int .i8 0))) := Lib.hid ⟨rfl, hf1, hr1, ht1⟩
    clear hf hf1 hr hr1 ht1 hpr c0 c1 c4 c5 c6
    go_enter Try.func70, Try.ntmps70
    go_wp2_with fail
    go_end0
    exact FIN.out
  · have hpr2 : pr = 64 * (W : Int) + 64 - (s : Int) := by
      rcases hpr with h | ⟨h1, h2⟩
      · exact h
      · exfalso
        apply hle
        rw [h1, h2]
        decide
    obtain ⟨q, rfl⟩ : ∃ q, s = q + 1 := ⟨s - 1, by omega⟩
    have u3 : IntKind.u32.wrap (((W : Int) + 1) * 64 - pr) = (q : Int) + 1 := by rw [IntKind.wrap_u32]; omega
    have u4 : IntKind.u32.wrap (q : Int) = (q : Int) := by rw [IntKind.wrap_u32]; omega
    have u5 : IntKind.u32.wrap (pr + 63) = pr + 63 := by rw [IntKind.wrap_u32]; omega
    have u6 : (pr + 63) / 64 = (W : Int) + 1 := by omega
    have u8 : IntKind.u64.wrap (q : Int) = (q : Int) := by rw [IntKind.wrap_u64]; omega
    have p2 : ¬ (pr + 63 < 0) := by omega
    have hp := Nat.two_pow_pos (q + 1)
    have hlt : 2 ^ (q + 1) < 2 ^ 64 := Nat.pow_lt_pow_right (by omega) (by omega)
    have CB : Hid (Calls Try.prog 77 #[.slice (some ⟨gr, 0, none⟩) (W + 1) cap, .int .u64 (q : Int)] (w.setCell ⟨g, 2, none⟩ (.int .i8 0)) fun e w' => e = .returned (.int .u64 0) ∧ w.setCell ⟨g, 2, none⟩ (.int .i8 0) = w') := Lib.hid (by
      have h := bit_any gr cap (W + 1) cap (N * 2 ^ (q + 1)) 0 q (by omega) (by omega) hW hcap _ hr1
      have e : Num.dg Num.B64 (N * 2 ^ (q + 1)) 0 / 2 ^ q % 2 = 0 := by
        rw [dg0_shift N (q + 1) hs, Nat.pow_succ, ← Nat.mul_assoc, Nat.mul_right_comm, Nat.mul_div_cancel _ (Nat.two_pow_pos q), Nat.mul_mod_left]
      rw [e] at h
      simpa using h)
    have CS : Hid (Calls Try.prog 59 #[.slice (some ⟨gr, 0, none⟩) (W + 1) cap, .int .u64 (q : Int)] (w.setCell ⟨g, 2, none⟩ (.int .i8 0)) fun e w' => e = .returned (.int .u64 0) ∧ w.setCell ⟨g, 2, none⟩ (.int .i8 0) = w') := Lib.hid (by
      have h := sticky_any gr cap (W + 1) cap (N * 2 ^ (q + 1)) 0 q (by omega) (by omega) hW hcap hW _ hr1
      have e : stk (N * 2 ^ (q + 1)) (64 * 0 + q) = 0 := by
        unfold stk
        rw [if_pos]
        rw [Nat.mul_zero, Nat.zero_add, Nat.pow_succ, ← Nat.mul_assoc, Nat.mul_right_comm]
        exact Nat.mul_mod_left _ _
      rw [e] at h
      simpa using h)
    have hx0 := Num.dg_lt Num.B64_pos (N * 2 ^ (q + 1)) 0
    have hx1 : Num.dg Num.B64 (N * 2 ^ (q + 1)) 0 / 2 ^ (q + 1) * 2 ^ (q + 1) = Num.dg Num.B64 (N * 2 ^ (q + 1)) 0 := by
      rw [dg0_shift N (q + 1) hs, Nat.mul_div_cancel _ hp]
    have hcl := hr1.cell hW 0 (by omega)
    have han := andNot_high (Num.dg Num.B64 (N * 2 ^ (q + 1)) 0) (q + 1) hx0 hs
    rw [hx1] at han
    have fz : (w.setCell ⟨g, 2, none⟩ (.int .i8 0)).frozen? ⟨gr, 0, none⟩ = false := by
      obtain ⟨f, hrow, _⟩ := hr1
      exact hrow.frozen 0
    have FIN : Hid (SameP w g gr cap (W + 1) (N * 2 ^ (q + 1)) pr ng ex (.returned (.tuple #[])) ((w.setCell ⟨g, 2, none⟩ (.int .i8 0)).setCell ⟨gr, 0, none⟩ (.int .u64 ((Num.dg Num.B64 (N * 2 ^ (q + 1)) 0 : Nat) : Int)))) := Lib.hid (by
      refine ⟨rfl, hf1.far (set_grown _ gr 0 _) hne, ?_, ht1.set2 0 _⟩
      obtain ⟨f, hrow, hff⟩ := hr1
      refine ⟨_, hrow.set 0 _, fun j hj => ?_⟩
      show (if j = 0 then _ else f j) = _
      split
      · rename_i h0
        rw [h0]
      · exact hff j hj)
    obtain ⟨lsb, hl⟩ : ∃ lsb : Nat, lsb = 2 ^ (q + 1) := ⟨_, rfl⟩
    obtain ⟨m1, hm⟩ : ∃ m1 : Nat, m1 = 2 ^ (q + 1) - 1 := ⟨_, rfl⟩
    have hshl : Op.shift .shl .u64 1 .u32 ((q : Int) + 1) = pure (.int .u64 (lsb : Int)) := by
      rw [shift_shl_any _ _ _ _ (by omega)]
      have e : min (((q : Int) + 1).toNat) IntKind.u64.bits = q + 1 := by show min _ 64 = q + 1; omega
      have e2 : (1 : Int) * 2 ^ (q + 1) = ((2 ^ (q + 1) : Nat) : Int) := by simp
      rw [e, e2, IntKind.wrap_u64, hl]
      have h64 : (2 : Nat) ^ 64 = 18446744073709551616 := by decide
      congr 2
      omega
    have u7 : IntKind.u64.wrap ((lsb : Int) - 1) = (m1 : Int) := by
      rw [IntKind.wrap_u64]
      have h64 : (2 : Nat) ^ 64 = 18446744073709551616 := by decide
      omega
    rw [← hm] at han
    generalize Num.dg Num.B64 (N * 2 ^ (q + 1)) 0 = x0 at *
    have hg2 : gr ≠ g := fun e => hne e.symm
    clear hpr hpr2 hf hf1 hr hr1 ht1 c0 c1 c4 c5 c6 hp hlt hx0 hx1 hl hm hs
    go_enter Try.func70, Try.ntmps70
    go_wp2_with fail
    (with_reducible refine Calls.mono CB.out ?_)
    rintro e w1 ⟨rfl, rfl⟩
    go_wp2_with fail
    (with_reducible refine Calls.mono CS.out ?_)
    rintro e w1 ⟨rfl, rfl⟩
    go_wp2_with fail
    go_end0
    exact FIN.out
end Go.Proofs.Ytnheiigdgklbcaa
