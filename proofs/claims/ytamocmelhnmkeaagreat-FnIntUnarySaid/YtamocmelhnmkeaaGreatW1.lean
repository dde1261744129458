/- Words added. -/
import Derived.Shelf.Spec.BitsCarry
import Derived.Laws.Externs
import Derived.Test.YtamocmelhnmkeaaGreatNu
import Derived.Test.YtamocmelhnmkeaaGreatSb
import Derived.Deep.RegionHeld3
namespace Go.Proofs.YtamocmelhnmkeaaGreat
open Go.ChangeShapes Go.WideShapes Go.ChangeAt Go.RowKit
set_option linter.unusedVariables false
theorem quiet_left {P : Program} {f : FuncId} {args : Array Value} {w : World} {n : Nat} {v : Value}
    (h : Calls P f args (w.drewN n) fun e w' => e = .returned v ∧ w.drewN n = w') : Calls P f args (w.drewN n) fun e w' => e = .returned v ∧ ∃ m, w' = w.drewN m :=
  h.mono fun _ _ ⟨he, hm⟩ => ⟨he, n, hm.symm⟩
theorem run_Add64 (x y c z k : Nat) (hc : c ≤ 1) (hz : z < 18446744073709551616) (h : z + 18446744073709551616 * k = x + y + c) (w : World) :
    (callFunc 140 #[.int .u64 (x : Int), .int .u64 (y : Int), .int .u64 (c : Int)]).run Tryz.prog w = .ok (.value (.tuple #[.int .u64 (z : Int), .int .u64 (k : Int)])) w := by
  have e1 : ((x : Int) + y + c) % 18446744073709551616 = z := by omega
  have e2 : ((x : Int) + y + c) / 18446744073709551616 = k := by omega
  rw [run_callFunc_extern (fn := Tryz.f140) (e := add64Entry) (by kernel_rfl) (by kernel_rfl) (by kernel_rfl) (by kernel_rfl) (by kernel_rfl) _ w,
    run_add64 (x : Int) (y : Int) (c : Int) (by omega) (by omega) (by omega) (by omega), e1, e2]
  rfl
set_option maxRecDepth 100000 in
theorem bitsAdd_any (x y c z k : Nat) (hc : c ≤ 1) (hz : z < 18446744073709551616) (h : z + 18446744073709551616 * k = x + y + c) (w : World) :
    Calls Tryz.prog 131 #[.int .u64 (x : Int), .int .u64 (y : Int), .int .u64 (c : Int)] w fun e w' => e = .returned (.tuple #[.int .u64 (z : Int), .int .u64 (k : Int)]) ∧ w = w' := by
  have hr := run_Add64 x y c z k hc hz h
  have HR := Lib.hid h
  clear h hc hz HR
  go_enter Tryz.func131, Tryz.ntmps131
  go_wp2_with fail
  go_ret2
  exact ⟨rfl, rfl⟩
/-- the row when its first i words are those of S -/
def wv (S i : Nat) (f : Nat → Value) (j : Nat) : Value := if j < i then .int .u64 ((Num.dg Num.B64 S j : Nat) : Int) else f j
theorem wv_set (S i : Nat) (f : Nat → Value) : (fun j => if j = i then Value.int .u64 ((Num.dg Num.B64 S i : Nat) : Int) else wv S i f j) = wv S (i + 1) f := by
  funext j
  unfold wv
  by_cases h : j = i
  · subst h; rw [if_pos rfl, if_pos (by omega)]
  · rw [if_neg h]
    by_cases h2 : j < i
    · rw [if_pos h2, if_pos (by omega)]
    · rw [if_neg h2, if_neg (by omega)]
theorem wv_zero (S : Nat) (f : Nat → Value) : wv S 0 f = f := by funext j; unfold wv; rw [if_neg (by omega)]
/-- a slice of words can be read while the first words of row g are laid: its word i is dg X i at round i -/
def Reads (w : World) (g : Nat) (A : Option Addr) (n : Nat) (X : Nat) (P : Nat → World → Prop) : Prop :=
  ∀ i wr, i < n → w.grownBy wr (some g) → P i wr → ∃ b off, A = some ⟨b, off, none⟩ ∧ wr.cell? ⟨b, off + i, none⟩ = some (.int .u64 ((Num.dg Num.B64 X i : Nat) : Int))
def AddVP (w : World) (g cap n S : Nat) (f : Nat → Value) (k : Nat) (e : Ending) (w' : World) : Prop := e = .returned (.int .u64 (k : Int)) ∧ w'.rowIs g 229 cap (wv S n f) ∧ w.grownBy w' (some g)
theorem grown_drewN {w wr : World} {row : Option Nat} (h : w.grownBy wr row) (n : Nat) : w.grownBy (wr.drewN n) row := ⟨h.os, h.tape, h.output, h.size, h.block⟩
theorem B64_val : Num.B64 = 18446744073709551616 := rfl
set_option maxRecDepth 100000 in
set_option maxHeartbeats 2000000 in
theorem addVVg_any (g cap n : Nat) (A B : Option Addr) (c k : Nat) (X Y : Nat) (f : Nat → Value) (hn : n ≤ cap) (hcap : cap ≤ 1000000) (w : World) (hr : w.rowIs g 229 cap f)
    (hx : Reads w g A n X (fun i wr => wr.rowIs g 229 cap (wv (X + Y) i f))) (hy : Reads w g B n Y (fun i wr => wr.rowIs g 229 cap (wv (X + Y) i f))) :
    Calls Tryz.prog 130 #[.slice (some ⟨g, 0, none⟩) n cap, .slice A n c, .slice B n k] w (AddVP w g cap n (X + Y) f (Num.cy Num.B64 X Y n)) := by
  have HX := Lib.hid hx
  have HY := Lib.hid hy
  clear hx hy
  go_enter Tryz.func130, Tryz.ntmps130
  go_wp2_with fail
  go_loopw [6, 25] (fun cv iv wr => ∃ i : Nat, iv = .int .i64 i ∧ i ≤ n ∧ cv = .int .u64 ((Num.cy Num.B64 X Y i : Nat) : Int) ∧ wr.rowIs g 229 cap (wv (X + Y) i f) ∧ w.grownBy wr (some g)) (fun _ iv _ => n - (intOf iv).toNat)
  case atStart => exact ⟨0, rfl, Nat.zero_le _, by rw [Num.cy_zero]; rfl, by rw [wv_zero]; exact hr, World.grownBy.refl w _⟩
  case round =>
    obtain ⟨i, rfl, hi, rfl, hri, hgi⟩ := hrel
    by_cases hlt : i < n
    · have hst := Num.cy_step Num.B64_pos X Y i
      have hc1 := Num.cy_le Num.B64_pos X Y i
      have hz := Num.dg_lt Num.B64_pos (X + Y) i
      rw [B64_val] at hst hz
      obtain ⟨b1, o1, rfl, hcx⟩ := HX.out i wr hlt hgi hri
      obtain ⟨b2, o2, rfl, hcy⟩ := HY.out i wr hlt hgi hri
      have hset : ∀ nq, ((wr.drewN nq).setCell ⟨g, i, none⟩ (.int .u64 ((Num.dg Num.B64 (X + Y) i : Nat) : Int))).rowIs g 229 cap (wv (X + Y) (i + 1) f) := fun nq => by
        have := (rowIs_drewN hri nq).set i (.int .u64 ((Num.dg Num.B64 (X + Y) i : Nat) : Int))
        rwa [wv_set] at this
      have hcl := hri.cell (i := i) (by omega)
      have hfr := hri.frozen i
      have hgs := fun nq => only_set (grown_drewN hgi nq) i (.int .u64 ((Num.dg Num.B64 (X + Y) i : Nat) : Int))
      have HSET := Lib.hid hset
      have HGS := Lib.hid hgs
      have i0 : (0 : Int) ≤ (i : Int) := by omega
      have i1 : (i : Int) < (n : Int) := by omega
      clear hset hgs
      rw [← B64_val] at hst hz
      have HADD := fun q => Lib.hid (quiet_left (n := q) (w := wr) (bitsAdd_any (Num.dg Num.B64 X i) (Num.dg Num.B64 Y i) (Num.cy Num.B64 X Y i) (Num.dg Num.B64 (X + Y) i) (Num.cy Num.B64 X Y (i + 1)) hc1 hz hst _))
      clear hst hz hc1
      generalize hcc2 : Num.cy Num.B64 X Y (i + 1) = cc2 at *
      have HC2 := Lib.hid hcc2
      clear hcc2
      generalize Num.cy Num.B64 X Y i = cc at *
      generalize Num.dg Num.B64 X i = x at *
      generalize Num.dg Num.B64 Y i = y at *
      generalize hzz : Num.dg Num.B64 (X + Y) i = z at *
      generalize wv (X + Y) i f i = old at *
      clear hzz
      go_wp2_with fail
      go_quiet ((go_at_call 131; exact (HADD _).out))
      go_wp2_with fail
      exact ⟨⟨i + 1, by go_num, by omega, by rw [HC2.out], HSET.out _, HGS.out _⟩, by simp [intOf]; omega⟩
    · obtain rfl : i = n := by omega
      go_wp2_with fail
      go_ret
      exact ⟨rfl, hri, hgi⟩
theorem run_Sub64 (x y c z k : Nat) (hc : c ≤ 1) (hk : k ≤ 1) (hz : z < 18446744073709551616) (h : x + 18446744073709551616 * k = z + y + c) (w : World) :
    (callFunc 142 #[.int .u64 (x : Int), .int .u64 (y : Int), .int .u64 (c : Int)]).run Tryz.prog w = .ok (.value (.tuple #[.int .u64 (z : Int), .int .u64 (k : Int)])) w := by
  have e1 : (x + 18446744073709551616 - y - c) % 18446744073709551616 = z := by omega
  have e2 : (if x < y + c then 1 else 0 : Nat) = k := by split <;> omega
  rw [run_callFunc_extern (fn := Tryz.f142) (e := sub64Entry) (by kernel_rfl) (by kernel_rfl) (by kernel_rfl) (by kernel_rfl) (by kernel_rfl) _ w,
    run_sub64 x y c hc, e1, e2]
  rfl
set_option maxRecDepth 100000 in
theorem bitsSub_any (x y c z k : Nat) (hc : c ≤ 1) (hk : k ≤ 1) (hz : z < 18446744073709551616) (h : x + 18446744073709551616 * k = z + y + c) (w : World) :
    Calls Tryz.prog 133 #[.int .u64 (x : Int), .int .u64 (y : Int), .int .u64 (c : Int)] w fun e w' => e = .returned (.tuple #[.int .u64 (z : Int), .int .u64 (k : Int)]) ∧ w = w' := by
  have hr := run_Sub64 x y c z k hc hk hz h
  clear h hc hz hk
  go_enter Tryz.func133, Tryz.ntmps133
  go_wp2_with fail
  go_ret2
  exact ⟨rfl, rfl⟩
set_option maxRecDepth 100000 in
set_option maxHeartbeats 2000000 in
theorem subVVg_any (g cap n : Nat) (A B : Option Addr) (c k : Nat) (X Y D : Nat) (hD : X = D + Y) (f : Nat → Value) (hn : n ≤ cap) (hcap : cap ≤ 1000000) (w : World) (hr : w.rowIs g 229 cap f)
    (hx : Reads w g A n X (fun i wr => wr.rowIs g 229 cap (wv D i f))) (hy : Reads w g B n Y (fun i wr => wr.rowIs g 229 cap (wv D i f))) :
    Calls Tryz.prog 132 #[.slice (some ⟨g, 0, none⟩) n cap, .slice A n c, .slice B n k] w (AddVP w g cap n D f (Num.cy Num.B64 D Y n)) := by
  have HDD := Lib.hid hD
  clear hD
  have HX := Lib.hid hx
  have HY := Lib.hid hy
  clear hx hy
  go_enter Tryz.func132, Tryz.ntmps132
  go_wp2_with fail
  go_loopw [6, 25] (fun cv iv wr => ∃ i : Nat, iv = .int .i64 i ∧ i ≤ n ∧ cv = .int .u64 ((Num.cy Num.B64 D Y i : Nat) : Int) ∧ wr.rowIs g 229 cap (wv D i f) ∧ w.grownBy wr (some g)) (fun _ iv _ => n - (intOf iv).toNat)
  case atStart => exact ⟨0, rfl, Nat.zero_le _, by rw [Num.cy_zero]; rfl, by rw [wv_zero]; exact hr, World.grownBy.refl w _⟩
  case round =>
    obtain ⟨i, rfl, hi, rfl, hri, hgi⟩ := hrel
    by_cases hlt : i < n
    · have hst := Num.cy_step Num.B64_pos D Y i
      rw [← HDD.out] at hst
      have hc1 := Num.cy_le Num.B64_pos D Y i
      have hc2 := Num.cy_le Num.B64_pos D Y (i + 1)
      have hz := Num.dg_lt Num.B64_pos D i
      rw [B64_val] at hst hz
      obtain ⟨b1, o1, rfl, hcx⟩ := HX.out i wr hlt hgi hri
      obtain ⟨b2, o2, rfl, hcy⟩ := HY.out i wr hlt hgi hri
      have hset : ∀ nq, ((wr.drewN nq).setCell ⟨g, i, none⟩ (.int .u64 ((Num.dg Num.B64 D i : Nat) : Int))).rowIs g 229 cap (wv D (i + 1) f) := fun nq => by
        have := (rowIs_drewN hri nq).set i (.int .u64 ((Num.dg Num.B64 D i : Nat) : Int))
        rwa [wv_set] at this
      have hcl := hri.cell (i := i) (by omega)
      have hfr := hri.frozen i
      have hgs := fun nq => only_set (grown_drewN hgi nq) i (.int .u64 ((Num.dg Num.B64 D i : Nat) : Int))
      have HSET := Lib.hid hset
      have HGS := Lib.hid hgs
      have i0 : (0 : Int) ≤ (i : Int) := by omega
      have i1 : (i : Int) < (n : Int) := by omega
      clear hset hgs
      rw [← B64_val] at hst hz
      have HADD := fun q => Lib.hid (quiet_left (n := q) (w := wr) (bitsSub_any (Num.dg Num.B64 X i) (Num.dg Num.B64 Y i) (Num.cy Num.B64 D Y i) (Num.dg Num.B64 D i) (Num.cy Num.B64 D Y (i + 1)) hc1 hc2 hz hst _))
      clear hst hz hc1 hc2
      generalize hcc2 : Num.cy Num.B64 D Y (i + 1) = cc2 at *
      have HC2 := Lib.hid hcc2
      clear hcc2
      generalize Num.cy Num.B64 D Y i = cc at *
      generalize Num.dg Num.B64 X i = x at *
      generalize Num.dg Num.B64 Y i = y at *
      generalize hzz : Num.dg Num.B64 D i = z at *
      generalize wv D i f i = old at *
      clear hzz
      go_wp2_with fail
      go_quiet ((go_at_call 133; exact (HADD _).out))
      go_wp2_with fail
      exact ⟨⟨i + 1, by go_num, by omega, by rw [HC2.out], HSET.out _, HGS.out _⟩, by simp [intOf]; omega⟩
    · obtain rfl : i = n := by omega
      go_wp2_with fail
      go_ret
      exact ⟨rfl, hri, hgi⟩
set_option maxRecDepth 100000 in
theorem addVV_any (g cap n : Nat) (A B : Option Addr) (c k : Nat) (S C : Nat) (f : Nat → Value) (w : World)
    (H : Calls Tryz.prog 130 #[.slice (some ⟨g, 0, none⟩) n cap, .slice A n c, .slice B n k] w (AddVP w g cap n S f C)) :
    Calls Tryz.prog 122 #[.slice (some ⟨g, 0, none⟩) n cap, .slice A n c, .slice B n k] w (AddVP w g cap n S f C) := by
  have HH := Lib.hid H
  clear H
  go_enter Tryz.func122, Tryz.ntmps122
  go_wp2_with fail
  refine (HH.out).mono ?_
  rintro e w1 ⟨rfl, q⟩
  have Q := Lib.hid q
  clear q
  go_wp2_with fail
  go_ret
  exact ⟨rfl, Q.out⟩
set_option maxRecDepth 100000 in
theorem subVV_any (g cap n : Nat) (A B : Option Addr) (c k : Nat) (S C : Nat) (f : Nat → Value) (w : World)
    (H : Calls Tryz.prog 132 #[.slice (some ⟨g, 0, none⟩) n cap, .slice A n c, .slice B n k] w (AddVP w g cap n S f C)) :
    Calls Tryz.prog 124 #[.slice (some ⟨g, 0, none⟩) n cap, .slice A n c, .slice B n k] w (AddVP w g cap n S f C) := by
  have HH := Lib.hid H
  clear H
  go_enter Tryz.func124, Tryz.ntmps124
  go_wp2_with fail
  refine (HH.out).mono ?_
  rintro e w1 ⟨rfl, q⟩
  have Q := Lib.hid q
  clear q
  go_wp2_with fail
  go_ret
  exact ⟨rfl, Q.out⟩
end Go.Proofs.YtamocmelhnmkeaaGreat
