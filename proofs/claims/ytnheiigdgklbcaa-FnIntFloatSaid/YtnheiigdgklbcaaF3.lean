/- Bits of a row of words; one word added to, or shifted, in place. -/
import Derived.Test.YtnheiigdgklbcaaF2
import Derived.Laws.Externs
import Derived.Shelf.Spec.BitsCarry
namespace Go.Proofs.Ytnheiigdgklbcaa
open Go.ChangeShapes Go.WideShapes Go.ChangeAt Go.RowKit
set_option linter.unusedVariables false
theorem and1 (x : Nat) (hx : x < 18446744073709551616) : bits .and .u64 (x : Int) 1 = ((x % 2 : Nat) : Int) := by
  have := u64_and_nat x 1 hx (by omega)
  rw [show (1 : Int) = ((1 : Nat) : Int) by rfl, this, Nat.and_one_is_mod]
set_option maxRecDepth 100000 in
theorem bit_any (g cap n Lc X q r : Nat) (hq : q < n) (hr : r < 64) (hn : n ≤ cap) (hcap : cap ≤ 1000000) (w : World) (hw : Rw w g cap n X) :
    Calls Try.prog 77 #[.slice (some ⟨g, 0, none⟩) n Lc, .int .u64 (64 * (q : Int) + (r : Int))] w fun e w' => e = .returned (.int .u64 ((Num.dg Num.B64 X q / 2 ^ r % 2 : Nat) : Int)) ∧ w = w' := by
  have hcl := hw.cell hn q hq
  have hlt := Num.dg_lt Num.B64_pos X q
  have hB : Num.B64 = 18446744073709551616 := rfl
  generalize Num.dg Num.B64 X q = t at *
  have hd : (64 * (q : Int) + (r : Int)) / 64 = (q : Int) := by omega
  have hm : (64 * (q : Int) + (r : Int)) % 64 = (r : Int) := by omega
  have hle : t / 2 ^ r ≤ t := Nat.div_le_self _ _
  have hshr : Op.shift .shr .u64 (t : Int) .u64 (r : Int) = pure (.int .u64 ((t / 2 ^ r : Nat) : Int)) := shr_u64 t r hr
  have hand := and1 (t / 2 ^ r) (by omega)
  obtain ⟨v, hv⟩ : ∃ v, v = t / 2 ^ r % 2 := ⟨_, rfl⟩
  rw [← hv] at hand ⊢
  have E1 : Hid (bits .and .u64 ((t : Int) / 2 ^ r) 1 = ((v : Nat) : Int)) := Lib.hid (by
    rw [← hand]
    simp)
  have hqI : (q : Int) < (n : Int) := by omega
  have hqn : ¬ (n : Int) ≤ (q : Int) := by omega
  have hnI : (n : Int) ≤ 1000000 := by omega
  have q0 : (0 : Int) ≤ (q : Int) := by omega
  clear hw hlt hle hand hr hq hv
  generalize (64 * (q : Int) + (r : Int)) = i at *
  go_enter Try.func77, Try.ntmps77
  go_wp2_with fail
  go_ret
  exact ⟨by rw [E1.out]; rfl, rfl⟩
theorem run_hi_u64 (A : Option Addr) (n c k : Nat) (hk : k ≤ c) (wx : World) :
    (Instr.slice 57 (.slice A n c) none (some (.int .u64 (k : Int))) none).run Try.prog wx = .ok (.slice A k c) wx := by
  have h1 : (k : Int) ≤ (c : Int) := by omega
  have h2 : (0 : Int) ≤ (k : Int) := by omega
  by_cases hc : c = 0
  · subst hc
    obtain rfl : k = 0 := by omega
    simp [go_sem, Try.underlying57]
  · simp [go_sem, Try.underlying57, h1, h2]
theorem shl_any (x s : Nat) (hs : s ≤ 64) : Op.shift .shl .u64 (x : Int) .u64 (s : Int) = pure (.int .u64 ((x * 2 ^ s % 2 ^ 64 : Nat) : Int)) := by
  rw [shift_shl_any _ _ _ _ (by omega)]
  have e : min ((s : Int).toNat) IntKind.u64.bits = s := by show min _ 64 = s; omega
  rw [e, IntKind.wrap_u64]
  simp
theorem mod_words (X q : Nat) : X % 2 ^ (64 * (q + 1)) = X % 2 ^ (64 * q) + 2 ^ (64 * q) * Num.dg Num.B64 X q := by
  unfold Num.dg
  rw [B64_pow, show 64 * (q + 1) = 64 * q + 64 by omega, Nat.pow_add, Nat.mod_mul, show Num.B64 = 2 ^ 64 by decide]
theorem mod_bits (X q r : Nat) (hr : r ≤ 64) : X % 2 ^ (64 * q + r) = X % 2 ^ (64 * q) + 2 ^ (64 * q) * (Num.dg Num.B64 X q % 2 ^ r) := by
  unfold Num.dg
  rw [B64_pow, Nat.pow_add, Nat.mod_mul, show Num.B64 = 2 ^ r * 2 ^ (64 - r) by rw [← Nat.pow_add, show r + (64 - r) = 64 by omega]; decide, Nat.mod_mul_right_mod]
theorem shl_zero (t r : Nat) (hr : r ≤ 64) : t * 2 ^ (64 - r) % 2 ^ 64 = 0 ↔ t % 2 ^ r = 0 := by
  rw [show (2 : Nat) ^ 64 = 2 ^ r * 2 ^ (64 - r) by rw [← Nat.pow_add, show r + (64 - r) = 64 by omega], Nat.mul_mod_mul_right]
  have h := Nat.two_pow_pos (64 - r)
  constructor
  · intro e
    rcases Nat.mul_eq_zero.1 e with h2 | h2
    · exact h2
    · omega
  · intro e
    rw [e, Nat.zero_mul]
/-- whether there is a bit below bit i -/
def stk (X i : Nat) : Nat := if X % 2 ^ i = 0 then 0 else 1
set_option maxRecDepth 100000 in
theorem sticky_any (g cap n Lc X q r : Nat) (hq : q < n) (hr : r < 64) (hn : n ≤ cap) (hcap : cap ≤ 1000000) (hLc : n ≤ Lc) (w : World) (hw : Rw w g cap n X) :
    Calls Try.prog 59 #[.slice (some ⟨g, 0, none⟩) n Lc, .int .u64 (64 * (q : Int) + (r : Int))] w fun e w' => e = .returned (.int .u64 ((stk X (64 * q + r) : Nat) : Int)) ∧ w = w' := by
  have CELL : Hid (∀ j, j < n → w.cell? ⟨g, j, none⟩ = some (.int .u64 ((Num.dg Num.B64 X j : Nat) : Int))) := Lib.hid fun j hj => hw.cell hn j hj
  have hlo := fun wx => run_hi_u64 (some ⟨g, 0, none⟩) n Lc q (by omega) wx
  have hd : (64 * (q : Int) + (r : Int)) / 64 = (q : Int) := by omega
  have hm : (64 * (q : Int) + (r : Int)) % 64 = (r : Int) := by omega
  have hqI : (q : Int) < (n : Int) := by omega
  have hqn : ¬ (n : Int) ≤ (q : Int) := by omega
  have hnI : (n : Int) ≤ 1000000 := by omega
  have q0 : (0 : Int) ≤ (q : Int) := by omega
  have hsb : IntKind.u64.wrap (64 - (r : Int)) = ((64 - r : Nat) : Int) := by rw [IntKind.wrap_u64]; omega
  have hshl : ∀ x : Nat, Op.shift .shl .u64 (x : Int) .u64 ((64 - r : Nat) : Int) = pure (.int .u64 ((x * 2 ^ (64 - r) % 2 ^ 64 : Nat) : Int)) := fun x => shl_any x (64 - r) (by omega)
  have NZ : Hid (∀ j, j < q → X % 2 ^ (64 * j) = 0 → Num.dg Num.B64 X j ≠ 0 → stk X (64 * q + r) = 1) := Lib.hid fun j hj h0 hne => by
    unfold stk
    rw [if_neg]
    intro e
    have h1 : X % 2 ^ (64 * (j + 1)) = 0 := by
      have hd1 : 2 ^ (64 * (j + 1)) ∣ 2 ^ (64 * q + r) := Nat.pow_dvd_pow 2 (by omega)
      rw [← Nat.mod_mod_of_dvd X hd1, e, Nat.zero_mod]
    rw [mod_words, h0, Nat.zero_add] at h1
    rcases Nat.mul_eq_zero.1 h1 with h2 | h2
    · have := Nat.two_pow_pos (64 * j)
      omega
    · exact hne h2
  have FIN : Hid (X % 2 ^ (64 * q) = 0 → stk X (64 * q + r) = if Num.dg Num.B64 X q * 2 ^ (64 - r) % 2 ^ 64 = 0 then 0 else 1) := Lib.hid fun h0 => by
    have h2 := Nat.two_pow_pos (64 * q)
    have e1 : X % 2 ^ (64 * q + r) = 0 ↔ Num.dg Num.B64 X q * 2 ^ (64 - r) % 2 ^ 64 = 0 := by
      rw [shl_zero _ r (by omega), mod_bits X q r (by omega), h0, Nat.zero_add]
      constructor
      · intro e
        rcases Nat.mul_eq_zero.1 e with h3 | h3
        · omega
        · exact h3
      · intro e
        rw [e, Nat.mul_zero]
    unfold stk
    simp only [e1]
  have NXT : Hid (∀ j, X % 2 ^ (64 * j) = 0 → Num.dg Num.B64 X j = 0 → X % 2 ^ (64 * (j + 1)) = 0) := Lib.hid fun j h0 h1 => by
    rw [mod_words, h0, h1, Nat.mul_zero]
  generalize stk X (64 * q + r) = S at *
  generalize (64 * (q : Int) + (r : Int)) = iv at *
  generalize 64 - r = T at *
  clear hw hr
  go_enter Try.func59, Try.ntmps59
  go_wp2_with fail
  go_loop [22] (fun iv => ∃ i : Nat, iv = .int .i64 ((i : Nat) : Int) ∧ i ≤ q ∧ Hid (X % 2 ^ (64 * i) = 0)) (fun iv => q - (intOf iv).toNat)
  case atStart => exact ⟨0, rfl, Nat.zero_le _, Lib.hid (by rw [Nat.mul_zero, Nat.pow_zero, Nat.mod_one])⟩
  case round =>
    obtain ⟨i, rfl, hi, h0⟩ := hrel
    by_cases hlt : i < q
    · have hc := CELL.out i (by omega)
      have NZi := Lib.hid (NZ.out i hlt h0.out)
      have NXi := Lib.hid (NXT.out i h0.out)
      have i0 : (0 : Int) ≤ (i : Int) := by omega
      have i1 : (i : Int) < (q : Int) := by omega
      have i2 : (i : Int) < (n : Int) := by omega
      generalize Num.dg Num.B64 X i = d at *
      by_cases hd0 : d = 0
      · have HX := Lib.hid (NXi.out hd0)
        subst hd0
        clear NZi NXi
        go_wp2_with fail
        exact ⟨⟨i + 1, by go_num, by omega, HX⟩, by simp [intOf]; omega⟩
      · have HS := Lib.hid (NZi.out hd0)
        have hdI : ¬ ((d : Int) = 0) := by omega
        clear NZi NXi
        go_wp2_with fail
        go_ret
        exact ⟨by rw [HS.out]; rfl, rfl⟩
    · obtain rfl : i = q := by omega
      have hc := CELL.out i hq
      have HF := Lib.hid (FIN.out h0.out)
      generalize Num.dg Num.B64 X i = d at *
      have ev : ((d : Int) * 2 ^ T % 18446744073709551616) = ((d * 2 ^ T % 2 ^ 64 : Nat) : Int) := by simp
      have EV := Lib.hid ev
      generalize d * 2 ^ T % 2 ^ 64 = v at HF EV ev
      clear ev
      by_cases hv : v = 0
      · have hvI : (d : Int) * 2 ^ T % 18446744073709551616 = 0 := by rw [EV.out, hv]; rfl
        have HS := Lib.hid HF.out
        rw [if_pos hv] at HS
        clear HF hv
        go_wp2_with fail
        go_ret
        exact ⟨by rw [HS.out]; rfl, rfl⟩
      · have hvI : ¬ ((d : Int) * 2 ^ T % 18446744073709551616 = 0) := by rw [EV.out]; omega
        have HS := Lib.hid HF.out
        rw [if_neg hv] at HS
        clear HF hv
        go_wp2_with fail
        go_ret
        exact ⟨by rw [HS.out]; rfl, rfl⟩
theorem run_Add64 (x y c z k : Nat) (hc : c ≤ 1) (hz : z < 18446744073709551616) (h : z + 18446744073709551616 * k = x + y + c) (w : World) :
    (callFunc 83 #[.int .u64 (x : Int), .int .u64 (y : Int), .int .u64 (c : Int)]).run Try.prog w = .ok (.value (.tuple #[.int .u64 (z : Int), .int .u64 (k : Int)])) w := by
  have e1 : ((x : Int) + y + c) % 18446744073709551616 = z := by omega
  have e2 : ((x : Int) + y + c) / 18446744073709551616 = k := by omega
  rw [run_callFunc_extern (fn := Try.f83) (e := add64Entry) (by kernel_rfl) (by kernel_rfl) (by kernel_rfl) (by kernel_rfl) (by kernel_rfl) _ w,
    run_add64 (x : Int) (y : Int) (c : Int) (by omega) (by omega) (by omega) (by omega), e1, e2]
  rfl
set_option maxRecDepth 100000 in
theorem bitsAdd_any (x y c z k : Nat) (hc : c ≤ 1) (hz : z < 18446744073709551616) (h : z + 18446744073709551616 * k = x + y + c) (w : World) :
    Calls Try.prog 80 #[.int .u64 (x : Int), .int .u64 (y : Int), .int .u64 (c : Int)] w fun e w' => e = .returned (.tuple #[.int .u64 (z : Int), .int .u64 (k : Int)]) ∧ w = w' := by
  have hr := run_Add64 x y c z k hc hz h
  have HR := Lib.hid h
  clear h hc hz HR
  go_enter Try.func80, Try.ntmps80
  go_wp2_with fail
  go_ret2
  exact ⟨rfl, rfl⟩
theorem info_pw : ∃ j, Try.prog.info? 100 = some j ∧ j.size ≠ 0 := by
  have h : (Try.prog.info? 100).map (·.size) = some 1 := by kernel_rfl
  cases hq : Try.prog.info? 100 with
  | none => rw [hq] at h; cases h
  | some j => rw [hq] at h; exact ⟨j, rfl, by have : j.size = 1 := by simpa using h
                                              omega⟩
theorem run_same_self {P : Program} {w : World} {a : Addr} : (sameAddr a a).run P w = .ok true w := by
  simp [sameAddr]
theorem run_neq_self {P : Program} {w : World} {tp te : TypeId} {j : TypeInfo} {a : Addr} (hp : P.underlying tp = some (.pointer te)) (hte : P.info? te = some j) (hsz : j.size ≠ 0) :
    (binOp .neq tp (.pointer (some a)) (.pointer (some a))).run P w = .ok (.bool false) w := by
  have h : ∀ d : Nat, (Op.equalIn (d + 1) tp (.pointer (some a)) (.pointer (some a))).run P w = .ok true w := fun d => by
    simp [Op.equalIn, run_underlying hp, sizeOf, typeInfo, hte, run_same_self]
  simp only [binOp]
  simp [Op.equal, Op.maxDepth, h 9999]
theorem neqW (g off : Nat) : ∀ W : World, (binOp .neq 115 (.pointer (some ⟨g, off, none⟩)) (.pointer (some ⟨g, off, none⟩))).run Try.prog W = .ok (.bool false) W := fun W => by
  obtain ⟨j, hj, hj0⟩ := info_pw
  exact run_neq_self Try.underlying115 hj hj0
/-- the row with word 0 laid -/
def W0P (w : World) (g cap z : Nat) (f : Nat → Value) (w' : World) : Prop := w'.rowIs g 100 cap (fun j => if j = 0 then .int .u64 ((z : Nat) : Int) else f j) ∧ w.grownBy w' (some g)
theorem W0P.mk' {w wr : World} {g cap : Nat} {f : Nat → Value} (hr : wr.rowIs g 100 cap f) (hg : w.grownBy wr (some g)) (z n : Nat) : W0P w g cap z f ((wr.setCell ⟨g, 0, none⟩ (.int .u64 ((z : Nat) : Int))).drewN n) :=
  by
  have h := only_set hg 0 (.int .u64 ((z : Nat) : Int))
  exact ⟨hr.set 0 _, ⟨h.os, h.tape, h.output, h.size, h.block⟩⟩
set_option maxRecDepth 100000 in
theorem addVW1_any (g cap Lc x y z k : Nat) (hz : z < 18446744073709551616) (hk : k ≤ 1) (h : z + 18446744073709551616 * k = x + y) (f : Nat → Value) (hf : f 0 = .int .u64 (x : Int)) (hcap : 1 ≤ cap) (hLc : 1 ≤ Lc) (w : World) (hr : w.rowIs g 100 cap f) :
    Calls Try.prog 78 #[.slice (some ⟨g, 0, none⟩) 1 Lc, .slice (some ⟨g, 0, none⟩) 1 Lc, .int .u64 (y : Int)] w fun e w' => e = .returned (.int .u64 (k : Int)) ∧ W0P w g cap z f w' := by
  have hadd := fun W => bitsAdd_any x y 0 z k (by omega) hz (by omega) W
  have HA := Lib.hid hadd
  have hcl := hr.cell (i := 0) (by omega)
  rw [hf] at hcl
  have hfr := hr.frozen 0
  have FIN := Lib.hid (fun n => W0P.mk' hr (World.grownBy.refl w (some g)) z n)
  have hne := neqW g 0
  clear hadd h hz hr hf hcap
  rcases (show k = 0 ∨ k = 1 by omega) with rfl | rfl
  · go_enter Try.func78, Try.ntmps78
    go_wp2_with fail
    refine (HA.out _).mono ?_
    rintro e w1 ⟨rfl, rfl⟩
    go_wp2_with fail
    go_quiet (fail)
    go_wp2_with fail
    go_ret
    exact ⟨rfl, FIN.out _⟩
  · go_enter Try.func78, Try.ntmps78
    go_wp2_with fail
    refine (HA.out _).mono ?_
    rintro e w1 ⟨rfl, rfl⟩
    go_wp2_with fail
    go_loop [9] (fun iv => iv = .int .i64 1) (fun _ => 0)
    case atStart => rfl
    case round =>
      subst hrel
      go_wp2_with fail
      go_ret
      exact ⟨rfl, FIN.out 0⟩
set_option maxRecDepth 100000 in
theorem rshVU1g_any (g cap Lc x : Nat) (hx : x < 18446744073709551616) (f : Nat → Value) (hf : f 0 = .int .u64 (x : Int)) (hcap : 1 ≤ cap) (hLc : 1 ≤ Lc) (w : World) (hr : w.rowIs g 100 cap f) :
    Calls Try.prog 81 #[.slice (some ⟨g, 0, none⟩) 1 Lc, .slice (some ⟨g, 0, none⟩) 1 Lc, .int .u64 1] w fun e w' => (∃ k : Int, e = .returned (.int .u64 k)) ∧ W0P w g cap (x / 2) f w' := by
  have hcl := hr.cell (i := 0) (by omega)
  rw [hf] at hcl
  have hfr := hr.frozen 0
  have FIN := Lib.hid (W0P.mk' hr (World.grownBy.refl w (some g)) (x / 2) 0)
  have hb1 : bits .and .u64 1 63 = 1 := and63 1 (by omega)
  have hb3 : bits .and .u64 63 63 = 63 := and63 63 (by omega)
  have hb2 : IntKind.u64.wrap 63 = 63 := by rw [IntKind.wrap_u64]; omega
  have hb4 : IntKind.u64.wrap (64 - 1) = 63 := by rw [IntKind.wrap_u64]; omega
  have hshl : Op.shift .shl .u64 (x : Int) .u64 63 = pure (.int .u64 ((x * 2 ^ 63 % 2 ^ 64 : Nat) : Int)) := shl_u64 x 63 (by omega)
  have hshr : Op.shift .shr .u64 (x : Int) .u64 1 = pure (.int .u64 ((x / 2 ^ 1 : Nat) : Int)) := shr_u64 x 1 (by omega)
  have E1 : Hid ((x : Int) / 2 ^ 1 = ((x / 2 : Nat) : Int)) := Lib.hid (by simp)
  clear hr hf hcap hx
  go_enter Try.func81, Try.ntmps81
  go_wp2_with fail
  go_loop [8] (fun iv => iv = .int .i64 1) (fun _ => 0)
  case atStart => rfl
  case round =>
    subst hrel
    go_wp2_with fail
    rw [show (x : Int) / 2 = ((x / 2 : Nat) : Int) from rfl]
    go_ret
    exact ⟨⟨_, rfl⟩, FIN.out⟩
set_option maxRecDepth 100000 in
theorem rshVU1_any (g cap Lc x : Nat) (hx : x < 18446744073709551616) (f : Nat → Value) (hf : f 0 = .int .u64 (x : Int)) (hcap : 1 ≤ cap) (hLc : 1 ≤ Lc) (w : World) (hr : w.rowIs g 100 cap f) :
    Calls Try.prog 79 #[.slice (some ⟨g, 0, none⟩) 1 Lc, .slice (some ⟨g, 0, none⟩) 1 Lc, .int .u64 1] w fun e w' => (∃ k : Int, e = .returned (.int .u64 k)) ∧ W0P w g cap (x / 2) f w' := by
  have H := Lib.hid (rshVU1g_any g cap Lc x hx f hf hcap hLc w hr)
  clear hx hf hcap hLc hr
  go_enter Try.func79, Try.ntmps79
  go_wp2_with fail
  refine H.out.mono ?_
  rintro e w1 ⟨⟨k, rfl⟩, h2⟩
  go_wp2_with fail
  go_ret
  exact ⟨⟨k, rfl⟩, h2⟩
set_option maxRecDepth 100000 in
theorem makeAcc_any (b : Bool) (w : World) : Calls Try.prog 69 #[.bool b] w fun e w' => e = .returned (.int .i8 (if b then 1 else -1)) ∧ w = w' := by
  cases b
  · go_enter Try.func69, Try.ntmps69
    go_wp2_with fail
    go_ret
    exact ⟨rfl, rfl⟩
  · go_enter Try.func69, Try.ntmps69
    go_wp2_with fail
    go_ret
    exact ⟨rfl, rfl⟩
set_option maxRecDepth 100000 in
theorem msb64_any (g cap n Lc x : Nat) (hn : n + 1 ≤ 1000000) (w : World) (hc : w.cell? ⟨g, n, none⟩ = some (.int .u64 (x : Int))) :
    Calls Try.prog 61 #[.slice (some ⟨g, 0, none⟩) (n + 1) Lc] w fun e w' => e = .returned (.int .u64 (x : Int)) ∧ w = w' := by
  have i0 : (0 : Int) ≤ (n : Int) := by omega
  have i1 : ¬ (n : Int) < 0 := by omega
  have i2 : (n : Int) < (n : Int) + 1 := by omega
  have i3 : (n : Int) + 1 - 1 = (n : Int) := by omega
  have i4 : (n : Int) ≤ 1000000 := by omega
  clear hn
  go_enter Try.func61, Try.ntmps61
  go_wp2_with fail
  go_ret
  exact ⟨rfl, rfl⟩
end Go.Proofs.Ytnheiigdgklbcaa
