/- Nothing less a number. -/
import Derived.Test.YtamocmelhnmkeaaGreatNu
import Derived.Deep.RegionHeld3
namespace Go.Proofs.YtamocmelhnmkeaaGreat
open Go.ChangeShapes Go.WideShapes Go.ChangeAt Go.RowKit
set_option linter.unusedVariables false
set_option maxRecDepth 100000 in
theorem addR_any (A0 : Option Addr) (c0 : Nat) (A : Option Addr) (c : Nat) (ws : List Nat) (hl : ws.length ≤ 268435456) (h0 : 0 < ws.length) (w : World) (hs : Sl w A c (w64 ws)) :
    Calls Tryz.prog 110 #[.slice none 0 0, .slice A ws.length c, .slice A0 0 c0] w (RetWs w ws) := by
  have HS := Lib.hid (set_any A c ws hl w hs)
  have n1 : ¬ ((ws.length : Int) < 0) := by omega
  have n2 : ((ws.length : Int) == 0) = false := by rw [beq_eq_false_iff_ne]; omega
  clear hs
  go_enter Tryz.func110, Tryz.ntmps110
  go_wp2_with fail
  refine (HS.out).mono ?_
  rintro e w1 ⟨A1, c1, rfl, q⟩
  have Q := Lib.hid q
  clear q
  go_wp2_with fail
  go_ret
  exact ⟨A1, c1, rfl, Q.out⟩
set_option maxRecDepth 100000 in
theorem addL_any (A0 : Option Addr) (c0 : Nat) (A : Option Addr) (c : Nat) (ws : List Nat) (hl : ws.length ≤ 268435456) (h0 : 0 < ws.length) (w : World) (hs : Sl w A c (w64 ws)) :
    Calls Tryz.prog 110 #[.slice none 0 0, .slice A0 0 c0, .slice A ws.length c] w (RetWs w ws) := by
  have HS := Lib.hid (addR_any A0 c0 A c ws hl h0 w hs)
  have n1 : (0 : Int) < (ws.length : Int) := by omega
  clear hs
  go_enter Tryz.func110, Tryz.ntmps110
  go_wp2_with fail
  refine (HS.out).mono ?_
  rintro e w1 ⟨A1, c1, rfl, q⟩
  have Q := Lib.hid q
  clear q
  go_wp2_with fail
  go_ret
  exact ⟨A1, c1, rfl, Q.out⟩
set_option maxRecDepth 100000 in
set_option maxHeartbeats 1000000 in
theorem SubZero_any (g x y : Nat) (z : Int) (hz : z.natAbs < Num.Cap) (hn : z < 0) (w : World) (hg : BI0 w g) (hx : BI w x 0) (hy : BI w y z) (hgx : g ≠ x) (hgy : g ≠ y) :
    Calls Tryz.prog 81 #[.pointer (some ⟨g, 0, none⟩), .pointer (some ⟨x, 0, none⟩), .pointer (some ⟨y, 0, none⟩)] w (RetPF w g (-z)) := by
  obtain ⟨A0, c0, ws0, hb0, _, hl0, _⟩ := hx
  obtain rfl : ws0 = [] := hl0.nil_iff.2 rfl
  obtain ⟨A, c, ws, hb, hs, hlw, hne⟩ := hy
  have hlen : ws.length ≤ 268435456 := by have := hlw.len hz; omega
  have hpos := hlw.len_pos (by omega)
  have hd0 : decide ((0 : Int) < 0) = false := rfl
  rw [hd0] at hb0
  have hd1 : decide (z < 0) = true := decide_eq_true hn
  rw [hd1] at hb
  have g1 : w.cell? ⟨g, 1, none⟩ = some (.slice none 0 0) := Blk.cell hg 1
  have x0 : w.cell? ⟨x, 0, none⟩ = some (.bool false) := hb0.cell 0
  have x1 : w.cell? ⟨x, 1, none⟩ = some (.slice A0 0 c0) := hb0.cell 1
  have y0 : w.cell? ⟨y, 0, none⟩ = some (.bool true) := hb.cell 0
  have y1 : w.cell? ⟨y, 1, none⟩ = some (.slice A ws.length c) := hb.cell 1
  have lg := Blk.lt hg
  have lx := Blk.lt hb0
  have ly := Blk.lt hb
  go_enter Tryz.func81, Tryz.ntmps81
  go_wp2_with fail
  go_quiet (fail)
  go_wp2_with fail
  have HS := Lib.hid hs
  have HL := Lib.hid hlw
  have HG := Lib.hid hg
  have HP := Lib.hid hpos
  have HNZ := Lib.hid hn
  clear hs hne hlw hb hg hb0 x0 y0 hn hd0 hd1 hl0
  go_region_with (go_at_call 110; refine Calls.mono (addL_any A0 c0 A c ws hlen hpos _ (HS.out.below ⟨rfl, rfl, rfl, Nat.le_refl _, fun _ _ => rfl⟩)) ?_; rintro e w1 ⟨A1, k1, rfl, hs1, hf1, hk1⟩; have q1 : w1.cell? ⟨g, 1, none⟩ = some (.slice none 0 0) := (hk1.cell (p := ⟨g, 1, none⟩) lg).trans g1; have q4 : w1.frozen? ⟨g, 1, none⟩ = false := (hk1.frozen (p := ⟨g, 1, none⟩) lg).trans (Blk.frozen HG.out 1))
  all_goals
    have hg1 : BI0 w1 g := (hk1.block g lg).trans HG.out
    have hkw : Kept w w1 := ⟨hk1.os, hk1.tape, hk1.output, hk1.size, hk1.block⟩
    have hg2 := Blk.set hg1 1 (.slice A1 ws.length k1)
    have k4 := hg2.cell 0
    have k6 := hg2.cell 1
    have k5 := hg2.frozen 0
    have hne1 : ∀ b off, A1 = some ⟨b, off, none⟩ → b ≠ g ∧ w.heap.size ≤ b := fun b off h => by have h1 := (hf1 _ h).1; have h2 : w.heap.size ≤ b := h1; exact ⟨by omega, h2⟩
    have hs2 := (hs1.setFar (i := 1) (fun b off h => (hne1 b off h).1) (.slice A1 ws.length k1)).setFar (i := 0) (fun b off h => (hne1 b off h).1) (.bool false)
    have ho2 := only_set (only_set (only_of_kept hkw (some g)) 1 (.slice A1 ws.length k1)) 0 (.bool false)
    have hnz : decide (-z < 0) = false := decide_eq_false (by have := HNZ.out; omega)
    have hg3 : Blk ((w1.setCell ⟨g, 1, none⟩ (.slice A1 ws.length k1)).setCell ⟨g, 0, none⟩ (.bool false)) g 114 #[.bool (decide (-z < 0)), .slice A1 ws.length k1] := by rw [hnz]; simpa using Blk.set hg2 0 (.bool false)
    have hlz : LW ws (-z).natAbs := by rw [Int.natAbs_neg]; exact HL.out
    have FIN := Lib.hid (RetPF.of hg3 hs2 hlz hne1 ho2)
    clear hg1 hkw hg2 hne1 hs2 ho2 hnz hg3 hlz q1 g1 x1 y1 hs1 hf1 hk1
    simp only [List.getElem?_toArray, List.setIfInBounds_toArray] at k4 k6
    go_wp2_with fail
    go_ret
    exact FIN.out
end Go.Proofs.YtamocmelhnmkeaaGreat
