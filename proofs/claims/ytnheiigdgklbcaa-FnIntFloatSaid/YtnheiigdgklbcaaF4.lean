/- A big float's block. -/
import Derived.Test.YtnheiigdgklbcaaF3
import Derived.Deep.RegionHeld3
import Derived.Laws.BitsAllLaws
namespace Go.Proofs.Ytnheiigdgklbcaa
open Go.ChangeShapes Go.WideShapes Go.ChangeAt Go.RowKit
set_option linter.unusedVariables false
/-- only the blocks g and k have changed -/
structure Two (g k : Nat) (w w' : World) : Prop where
  os : w'.os = w.os
  tape : w'.tape = w.tape
  output : w'.output = w.output
  size : w.heap.size ≤ w'.heap.size
  block : ∀ i, i < w.heap.size → i ≠ g → i ≠ k → w'.heap[i]? = w.heap[i]?
theorem Two.refl (g k : Nat) (w : World) : Two g k w w := ⟨rfl, rfl, rfl, Nat.le_refl _, fun _ _ _ _ => rfl⟩
theorem Two.grown1 {g k : Nat} {w a b : World} (h : Two g k w a) (hb : a.grownBy b (some g)) : Two g k w b :=
  ⟨hb.os.trans h.os, hb.tape.trans h.tape, hb.output.trans h.output, Nat.le_trans h.size hb.size, fun i hi h1 h2 => (hb.block i (Nat.lt_of_lt_of_le hi h.size) (fun e => h1 (by injection e))).trans (h.block i hi h1 h2)⟩
theorem Two.grown2 {g k : Nat} {w a b : World} (h : Two g k w a) (hb : a.grownBy b (some k)) : Two g k w b :=
  ⟨hb.os.trans h.os, hb.tape.trans h.tape, hb.output.trans h.output, Nat.le_trans h.size hb.size, fun i hi h1 h2 => (hb.block i (Nat.lt_of_lt_of_le hi h.size) (fun e => h2 (by injection e))).trans (h.block i hi h1 h2)⟩
theorem Two.set1 {g k : Nat} {w a : World} (h : Two g k w a) (i : Nat) (u : Value) : Two g k w (a.setCell ⟨g, i, none⟩ u) := h.grown1 (only_set (World.grownBy.refl a _) i u)
theorem Two.set2 {g k : Nat} {w a : World} (h : Two g k w a) (i : Nat) (u : Value) : Two g k w (a.setCell ⟨k, i, none⟩ u) := h.grown2 (only_set (World.grownBy.refl a _) i u)
theorem Two.kept {g k : Nat} {w0 w a : World} (h : Two g k w a) (hk : Kept w0 w) (h1 : w0.heap.size ≤ g) (h2 : w0.heap.size ≤ k) : Kept w0 a :=
  ⟨h.os.trans hk.os, h.tape.trans hk.tape, h.output.trans hk.output, Nat.le_trans hk.size h.size, fun i hi => (h.block i (Nat.lt_of_lt_of_le hi hk.size) (by omega) (by omega)).trans (hk.block i hi)⟩
theorem Two.trans {g k : Nat} {w a b : World} (h : Two g k w a) (hb : Two g k a b) : Two g k w b :=
  ⟨hb.os.trans h.os, hb.tape.trans h.tape, hb.output.trans h.output, Nat.le_trans h.size hb.size, fun i hi h1 h2 => (hb.block i (Nat.lt_of_lt_of_le hi h.size) h1 h2).trans (h.block i hi h1 h2)⟩
/-- a big float's block -/
def FB (w : World) (g : Nat) (pr ac : Int) (fo : Int) (ng : Bool) (S : Value) (ex : Int) : Prop := Blk w g 76 #[.int .u32 pr, .int .u8 0, .int .i8 ac, .int .u8 fo, .bool ng, S, .int .i32 ex]
theorem FB.far {w W : World} {g k : Nat} {pr ac fo : Int} {ng : Bool} {S : Value} {ex : Int} (h : FB w g pr ac fo ng S ex) (hb : w.grownBy W (some k)) (hne : g ≠ k) : FB W g pr ac fo ng S ex :=
  (hb.block g (Blk.lt h) (fun e => hne (by injection e))).trans h
theorem FB.acc {w : World} {g : Nat} {pr ac fo : Int} {ng : Bool} {S : Value} {ex : Int} (h : FB w g pr ac fo ng S ex) (v : Int) : FB (w.setCell ⟨g, 2, none⟩ (.int .i8 v)) g pr v fo ng S ex := Blk.set h 2 (.int .i8 v)
theorem FB.form {w : World} {g : Nat} {pr ac fo : Int} {ng : Bool} {S : Value} {ex : Int} (h : FB w g pr ac fo ng S ex) (v : Int) : FB (w.setCell ⟨g, 3, none⟩ (.int .u8 v)) g pr ac v ng S ex := Blk.set h 3 (.int .u8 v)
theorem FB.prec {w : World} {g : Nat} {pr ac fo : Int} {ng : Bool} {S : Value} {ex : Int} (h : FB w g pr ac fo ng S ex) (v : Int) : FB (w.setCell ⟨g, 0, none⟩ (.int .u32 v)) g v ac fo ng S ex := Blk.set h 0 (.int .u32 v)
theorem FB.neg {w : World} {g : Nat} {pr ac fo : Int} {ng : Bool} {S : Value} {ex : Int} (h : FB w g pr ac fo ng S ex) (v : Bool) : FB (w.setCell ⟨g, 4, none⟩ (.bool v)) g pr ac fo v S ex := Blk.set h 4 (.bool v)
theorem FB.mant {w : World} {g : Nat} {pr ac fo : Int} {ng : Bool} {S : Value} {ex : Int} (h : FB w g pr ac fo ng S ex) (v : Value) : FB (w.setCell ⟨g, 5, none⟩ v) g pr ac fo ng v ex := Blk.set h 5 v
theorem FB.exp {w : World} {g : Nat} {pr ac fo : Int} {ng : Bool} {S : Value} {ex : Int} (h : FB w g pr ac fo ng S ex) (v : Int) : FB (w.setCell ⟨g, 6, none⟩ (.int .i32 v)) g pr ac fo ng S v := Blk.set h 6 (.int .i32 v)
theorem FB.cells {w : World} {g : Nat} {pr ac fo : Int} {ng : Bool} {S : Value} {ex : Int} (h : FB w g pr ac fo ng S ex) :
    w.cell? ⟨g, 0, none⟩ = some (.int .u32 pr) ∧ w.cell? ⟨g, 1, none⟩ = some (.int .u8 0) ∧ w.cell? ⟨g, 2, none⟩ = some (.int .i8 ac) ∧ w.cell? ⟨g, 3, none⟩ = some (.int .u8 fo) ∧ w.cell? ⟨g, 4, none⟩ = some (.bool ng) ∧ w.cell? ⟨g, 5, none⟩ = some S ∧ w.cell? ⟨g, 6, none⟩ = some (.int .i32 ex) :=
  ⟨Blk.cell h 0, Blk.cell h 1, Blk.cell h 2, Blk.cell h 3, Blk.cell h 4, Blk.cell h 5, Blk.cell h 6⟩
theorem Rw.far {w W : World} {g k cap n X : Nat} (h : Rw w g cap n X) (hb : w.grownBy W (some k)) (hne : g ≠ k) : Rw W g cap n X := by
  obtain ⟨f, ⟨cur, hg, hr⟩, hf⟩ := h
  exact ⟨f, ⟨cur, (hb.block g (Array.getElem?_eq_some_iff.1 hg).1 (fun e => hne (by injection e))).trans hg, hr⟩, hf⟩
theorem set_grown (w : World) (k i : Nat) (u : Value) : w.grownBy (w.setCell ⟨k, i, none⟩ u) (some k) := only_set (World.grownBy.refl w _) i u
/-- the low s bits struck out -/
theorem and_high (a s : Nat) (ha : a < 2 ^ 64) (hs : s ≤ 64) : a &&& (2 ^ 64 - 1 - (2 ^ s - 1)) = a / 2 ^ s * 2 ^ s := by
  apply Nat.eq_of_testBit_eq
  intro i
  have hp := Nat.two_pow_pos s
  have hle : 2 ^ s ≤ 2 ^ 64 := Nat.pow_le_pow_right (by omega) hs
  rw [show 2 ^ 64 - 1 - (2 ^ s - 1) = 2 ^ 64 - ((2 ^ s - 1) + 1) by omega, Nat.testBit_and, Nat.testBit_two_pow_sub_succ (by omega), Nat.testBit_two_pow_sub_one, Nat.testBit_mul_two_pow, Nat.testBit_div_two_pow]
  by_cases h1 : s ≤ i
  · rw [show i - s + s = i by omega]
    by_cases h2 : i < 64
    · simp [h1, h2, Nat.not_lt.2 h1]
    · have : a.testBit i = false := Nat.testBit_lt_two_pow (Nat.lt_of_lt_of_le ha (Nat.pow_le_pow_right (by omega) (by omega)))
      simp [this]
  · simp [h1, Nat.not_le.1 h1]
theorem andNot_high (a s : Nat) (ha : a < 18446744073709551616) (hs : s < 64) : bits .andNot .u64 (a : Int) ((2 ^ s - 1 : Nat) : Int) = ((a / 2 ^ s * 2 ^ s : Nat) : Int) := by
  have hlt : 2 ^ s < 2 ^ 64 := Nat.pow_lt_pow_right (by omega) hs
  rw [u64_andNot_nat a (2 ^ s - 1) ha (by rw [show 18446744073709551616 = 2 ^ 64 by decide]; omega), show 18446744073709551615 = 2 ^ 64 - 1 by decide, and_high a s ha (by omega)]
end Go.Proofs.Ytnheiigdgklbcaa
