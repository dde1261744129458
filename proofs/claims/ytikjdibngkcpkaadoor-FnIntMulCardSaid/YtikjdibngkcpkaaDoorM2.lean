import Derived.Test.YtikjdibngkcpkaaDoorM1
namespace Go.Proofs.YtikjdibngkcpkaaDoor
open Go.ChangeShapes Go.WideShapes Go.ChangeAt Go.RowKit
set_option linter.unusedVariables false
theorem rowIs_heap' {w w' : World} {b : Nat} {t : TypeId} {n : Nat} {f : Nat → Value} (h : w.rowIs b t n f) (e : w'.heap = w.heap) : w'.rowIs b t n f := by
  obtain ⟨c, h1, h2⟩ := h
  exact ⟨c, by rw [e]; exact h1, h2⟩
theorem addmul_split (p c s c' : Nat) (h : s + Num.B64 * c' = p + c) (hs : s < Num.B64) (hc : c < Num.B64) :
    s + 18446744073709551616 * ((p % 18446744073709551616 + c) / 18446744073709551616) = p % 18446744073709551616 + c + 0 ∧ (p % 18446744073709551616 + c) / 18446744073709551616 + p / 18446744073709551616 = c' ∧ (p % 18446744073709551616 + c) / 18446744073709551616 ≤ 1 := by
  have hB : Num.B64 = 18446744073709551616 := rfl
  rw [hB] at h hs hc
  omega
set_option maxRecDepth 100000 in
set_option maxHeartbeats 4000000 in
theorem addMulg_any (g cap o n Lc : Nat) (A : Option Addr) (c : Nat) (Z X m : Nat) (f : Nat → Value) (hn : o + n ≤ cap) (hLc : n ≤ Lc) (hcap : cap ≤ 1000000) (hm : m < Num.B64) (w : World) (hr : w.rowIs g 70 cap f) (hf : ∀ j, j < n → f (o + j) = .int .u64 ((Num.dg Num.B64 Z j : Nat) : Int))
    (hx : ∀ i wr, i < n → w.grownBy wr (some g) → ∃ b off, A = some ⟨b, off, none⟩ ∧ wr.cell? ⟨b, off + i, none⟩ = some (.int .u64 ((Num.dg Num.B64 X i : Nat) : Int))) :
    Calls Tryd.prog 77 #[.slice (some ⟨g, o, none⟩) n Lc, .slice (some ⟨g, o, none⟩) n Lc, .slice A n c, .int .u64 (m : Int), .int .u64 0] w (MulP w g cap o n (Z + X * m + 0) f (mc Z X m 0 n)) := by
  have HX := Lib.hid hx
  have HM := Lib.hid hm
  have HFF := Lib.hid hf
  clear hx hm hf
  go_enter Tryd.func77, Tryd.ntmps77
  go_wp2_with fail
  go_loopw [10, 32] (fun cv iv wr => ∃ i : Nat, iv = .int .i64 i ∧ i ≤ n ∧ cv = .int .u64 ((mc Z X m 0 i : Nat) : Int) ∧ wr.rowIs g 70 cap (wo2 (Z + X * m + 0) o i f) ∧ w.grownBy wr (some g)) (fun _ iv _ => n - (intOf iv).toNat)
  case atStart => exact ⟨0, rfl, Nat.zero_le _, by rw [mc_zero]; rfl, by rw [wo2_zero]; exact hr, World.grownBy.refl w _⟩
  case round =>
    obtain ⟨i, rfl, hi, rfl, hri, hgi⟩ := hrel
    by_cases hlt : i < n
    · have hst := mc_step Z X m 0 i
      have hc1 := mc_lt Z X m 0 i HM.out (by decide)
      have hc2 := mc_lt Z X m 0 (i + 1) HM.out (by decide)
      have hz := Num.dg_lt Num.B64_pos (Z + X * m + 0) i
      have hxl := Num.dg_lt Num.B64_pos X i
      have hzl := Num.dg_lt Num.B64_pos Z i
      obtain ⟨b1, o1, rfl, hcx⟩ := HX.out i wr hlt hgi
      have hcz : wr.cell? ⟨g, o + i, none⟩ = some (.int .u64 ((Num.dg Num.B64 Z i : Nat) : Int)) := by
        rw [hri.cell (i := o + i) (by omega)]
        unfold wo2
        rw [if_neg (by omega), HFF.out i hlt]
      have HW : Hid (∀ W : World, Calls Tryd.prog 86 #[.int .u64 ((Num.dg Num.B64 X i : Nat) : Int), .int .u64 (m : Int), .int .u64 ((Num.dg Num.B64 Z i : Nat) : Int)] W fun e w' => e = .returned (.tuple #[.int .u64 (((Num.dg Num.B64 X i * m + Num.dg Num.B64 Z i) / 18446744073709551616 : Nat) : Int), .int .u64 (((Num.dg Num.B64 X i * m + Num.dg Num.B64 Z i) % 18446744073709551616 : Nat) : Int)]) ∧ W = w') := Lib.hid fun W => mulAddWWW_any (Num.dg Num.B64 X i) m (Num.dg Num.B64 Z i) hxl HM.out hzl W
      obtain ⟨a1, a2, a3⟩ := addmul_split (Num.dg Num.B64 X i * m + Num.dg Num.B64 Z i) (mc Z X m 0 i) (Num.dg Num.B64 (Z + X * m + 0) i) (mc Z X m 0 (i + 1)) (by rw [hst]; omega) hz hc1
      have HADD : Hid (∀ W : World, Calls Tryd.prog 85 #[.int .u64 (((Num.dg Num.B64 X i * m + Num.dg Num.B64 Z i) % 18446744073709551616 : Nat) : Int), .int .u64 ((mc Z X m 0 i : Nat) : Int), .int .u64 0] W fun e w' => e = .returned (.tuple #[.int .u64 ((Num.dg Num.B64 (Z + X * m + 0) i : Nat) : Int), .int .u64 (((((Num.dg Num.B64 X i * m + Num.dg Num.B64 Z i) % 18446744073709551616 + mc Z X m 0 i) / 18446744073709551616 : Nat)) : Int)]) ∧ W = w') := Lib.hid fun W => bitsAdd_any _ _ 0 _ _ (by omega) hz a1 W
      have hwr : IntKind.u64.wrap ((((((Num.dg Num.B64 X i * m + Num.dg Num.B64 Z i) % 18446744073709551616 + mc Z X m 0 i) / 18446744073709551616 : Nat)) : Int) + (((Num.dg Num.B64 X i * m + Num.dg Num.B64 Z i) / 18446744073709551616 : Nat) : Int)) = ((mc Z X m 0 (i + 1) : Nat) : Int) := by
        have hB : Num.B64 = 18446744073709551616 := rfl
        rw [hB] at hc2
        rw [IntKind.wrap_u64, ← Int.natCast_add, a2]
        omega
      have hset := hri.set (o + i) (.int .u64 ((Num.dg Num.B64 (Z + X * m + 0) i : Nat) : Int))
      rw [wo2_set] at hset
      have hfr := hri.frozen (o + i)
      have hsetd : (wr.drew.setCell ⟨g, o + i, none⟩ (.int .u64 ((Num.dg Num.B64 (Z + X * m + 0) i : Nat) : Int))).rowIs g 70 cap (wo2 (Z + X * m + 0) o (i + 1) f) := rowIs_heap' hset rfl
      have HSET := Lib.hid hsetd
      have HGS := Lib.hid (only_set (W := wr.drew) ⟨hgi.os, hgi.tape, hgi.output, hgi.size, hgi.block⟩ (o + i) (.int .u64 ((Num.dg Num.B64 (Z + X * m + 0) i : Nat) : Int)))
      have i0 : (0 : Int) ≤ (i : Int) := by omega
      have i1 : (i : Int) < (n : Int) := by omega
      have HWR := Lib.hid hwr
      clear hset hsetd hri hgi hst hz hxl hzl hc1 hc2 a1 a2 a3 hwr
      generalize hcc2 : mc Z X m 0 (i + 1) = cc2 at *
      have HC2 := Lib.hid hcc2
      clear hcc2
      generalize ((Num.dg Num.B64 X i * m + Num.dg Num.B64 Z i) % 18446744073709551616 + mc Z X m 0 i) / 18446744073709551616 = k1 at *
      generalize mc Z X m 0 i = cc at *
      generalize (Num.dg Num.B64 X i * m + Num.dg Num.B64 Z i) / 18446744073709551616 = z1 at *
      generalize (Num.dg Num.B64 X i * m + Num.dg Num.B64 Z i) % 18446744073709551616 = z0 at *
      generalize Num.dg Num.B64 X i = x at *
      generalize Num.dg Num.B64 (Z + X * m + 0) i = s at *
      generalize Num.dg Num.B64 Z i = z at *
      go_wp2_with fail
      go_region_held3 (fun Q : World => Q.cell? ⟨b1, o1 + i, none⟩ = some (.int .u64 (x : Int)) ∧ Q.cell? ⟨g, o + i, none⟩ = some (.int .u64 (z : Int)))
        (first | exact ⟨hcx, hcz⟩ | go_keep)
        ((go_at_call 86
          (with_reducible refine Calls.mono (HW.out _) ?_)
          rintro e w1 ⟨rfl, rfl⟩))
      go_wp2_with fail
      refine (HADD.out _).mono ?_
      rintro e w1 ⟨rfl, rfl⟩
      have hwr := HWR.out
      have hczd : wr.drew.cell? ⟨g, o + i, none⟩ = some (.int .u64 (z : Int)) := hcz
      go_wp2_with fail
      exact ⟨⟨i + 1, by go_num, by omega, by rw [HC2.out], HSET.out, HGS.out⟩, by simp [intOf]; omega⟩
    · obtain rfl : i = n := by omega
      go_wp2_with fail
      go_ret
      exact ⟨rfl, hri, hgi⟩
theorem addMulVVWW_any (g cap o n Lc : Nat) (A : Option Addr) (c m S k : Nat) (f : Nat → Value) (w : World)
    (h : Calls Tryd.prog 77 #[.slice (some ⟨g, o, none⟩) n Lc, .slice (some ⟨g, o, none⟩) n Lc, .slice A n c, .int .u64 (m : Int), .int .u64 0] w (MulP w g cap o n S f k)) :
    Calls Tryd.prog 60 #[.slice (some ⟨g, o, none⟩) n Lc, .slice (some ⟨g, o, none⟩) n Lc, .slice A n c, .int .u64 (m : Int), .int .u64 0] w (MulP w g cap o n S f k) := by
  have H := Lib.hid h
  clear h
  go_enter Tryd.func60, Tryd.ntmps60
  go_wp2_with fail
  refine (H.out).mono ?_
  rintro e w1 ⟨rfl, h1, h2⟩
  go_wp2_with fail
  go_ret
  exact ⟨rfl, h1, h2⟩
end Go.Proofs.YtikjdibngkcpkaaDoor
