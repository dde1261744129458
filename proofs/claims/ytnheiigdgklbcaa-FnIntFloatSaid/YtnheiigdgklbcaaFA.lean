/- An integer becomes a big float. -/
import Derived.Test.YtnheiigdgklbcaaF9
import Derived.Deep.RegionHeld3
import Derived.Laws.BitsAllLaws
namespace Go.Proofs.Ytnheiigdgklbcaa
open Go.ChangeShapes Go.WideShapes Go.ChangeAt Go.RowKit
set_option linter.unusedVariables false
theorem lw_range {ws : List Nat} {N W : Nat} (h : LW ws N) (hw : ws.length = W + 1) : N < 2 ^ (64 * W + 64) ∧ N / 2 ^ (64 * W) ≠ 0 ∧ ∀ j, j < W + 1 → ws[j]? = some (Num.dg Num.B64 N j) := by
  have h1 := Num.le_lt Num.B64 Num.B64_pos ws h.1.dig
  have hne : ws ≠ [] := fun e => by rw [e] at hw; cases hw
  have h2 := Num.le_ge Num.B64 Num.B64_pos ws h.1 hne
  rw [h.2, hw, B64_pow] at h1 h2
  rw [show 64 * (W + 1) = 64 * W + 64 by omega] at h1
  rw [Nat.add_sub_cancel] at h2
  refine ⟨h1, ?_, fun j hj => ?_⟩
  · have hp := Nat.two_pow_pos (64 * W)
    intro e
    rcases Nat.div_eq_zero_iff.1 e with h3 | h3 <;> omega
  · have := Num.dg_le Num.B64 ws j h.1.dig
    rw [h.2] at this
    rw [this, List.getD_eq_getElem?_getD, List.getElem?_eq_getElem (by omega)]
    rfl
/-- the integer z, not 0, as a big float at g: its n binary digits in a row of the call's own, shifted to the left by s -/
def SetP (w : World) (g : Nat) (z : Int) (e : Ending) (w' : World) : Prop :=
  e = .returned (.pointer (some ⟨g, 0, none⟩)) ∧ (∃ gr cap W s pr, s < 64 ∧ 64 * W + 64 = blen z.natAbs + s ∧ w.heap.size ≤ gr ∧ W + 1 ≤ cap ∧ cap ≤ 99999 ∧ (64 : Int) ≤ pr ∧ pr ≤ 1000000 ∧
    FB w' g pr 0 1 (decide (z < 0)) (.slice (some ⟨gr, 0, none⟩) (W + 1) cap) ((blen z.natAbs : Nat) : Int) ∧ Rw w' gr cap (W + 1) (z.natAbs * 2 ^ s)) ∧
    ∀ w0, Kept w0 w → w0.heap.size ≤ g → Kept w0 w'
set_option maxRecDepth 100000 in
set_option maxHeartbeats 1000000 in
theorem SetInt_any (g gx : Nat) (z : Int) (hz0 : z ≠ 0) (hz : z.natAbs < 256 ^ 200) (w0 w : World) (hk00 : Kept w0 w) (hg00 : w0.heap.size ≤ g) (hf : FB w g 0 0 0 false (.slice none 0 0) 0) (hx0 : BI w0 gx z) :
    Calls Try.prog 36 #[.pointer (some ⟨g, 0, none⟩), .pointer (some ⟨gx, 0, none⟩)] w (SetP w g z) := by
  have hx := hx0.below hk00
  have hne : g ≠ gx := by have := hx0.lt; omega
  have hBL := BitLen_any gx z (cap_200 hz) w hx
  obtain ⟨A, c, ws, hb, hs, hlw, hnex⟩ := hx
  have hlen := hlw.len (cap_200 hz)
  have hpos := hlw.len_pos (by omega)
  obtain ⟨W, hW⟩ : ∃ W, ws.length = W + 1 := ⟨ws.length - 1, by omega⟩
  obtain ⟨hr1, hr2, hr3⟩ := lw_range hlw hW
  obtain ⟨xb, xo, hA, hcx⟩ := hs.at_ (w64_ne (by omega))
  subst hA
  have hlw2 := hlw
  have hsrc : ∀ j, j < W + 1 → w.cell? ⟨xb, xo + j, none⟩ = some (.int .u64 ((Num.dg Num.B64 z.natAbs j : Nat) : Int)) := fun j hj => hcx j _ (by
    have := hr3 j hj
    unfold w64
    rw [List.getElem?_map, this]
    rfl)
  have hneb := hnex xb xo rfl
  have hneb2 : xb ≠ g := by
    obtain ⟨A', c', ws', hb', hs', hlw', hnex'⟩ := hx0
    have e := (hb'.below hk00).symm.trans hb
    injection e with e
    injection e with e
    have e := congrArg (fun a : Array Value => a[1]?) e
    simp only [List.getElem?_toArray, List.getElem?_cons_succ, List.getElem?_cons_zero] at e
    injection e with e
    injection e with e1 e2 e3
    obtain ⟨xb', xo', hA', hcx'⟩ := hs'.at_ (w64_ne (by omega))
    rw [e1] at hA'
    injection hA' with hA'
    injection hA' with hA1 hA2
    have h2 := hcx' 0 _ (w64_get ws' 0 (by omega))
    have h3 : xb' < w0.heap.size := block_lt_of_cell h2
    omega
  have hbl := blen_le hz
  have hbt := blen_top z.natAbs W hr2
  have htw : z.natAbs / 2 ^ (64 * W) < 2 ^ 64 := by
    rw [Nat.div_lt_iff_lt_mul (Nat.two_pow_pos _), ← Nat.pow_add, Nat.add_comm]
    exact hr1
  have hbw := blen_w hr2 htw
  rw [hW] at hb
  have hlx := hb.lt
  have hlg := Blk.lt hf
  have hxb := block_lt_of_cell (hsrc 0 (by omega))
  obtain ⟨n, hn⟩ : ∃ n, n = blen z.natAbs := ⟨_, rfl⟩
  rw [← hn] at hbl hbt
  obtain ⟨s, hss⟩ : ∃ s, s = 64 * W + 64 - n := ⟨_, rfl⟩
  have hs64 : s < 64 := by omega
  obtain ⟨pm, hpm⟩ : ∃ pm : Int, pm = max (n : Int) 64 := ⟨_, rfl⟩
  have hpr : (pm = 64 * (W : Int) + 64 - (s : Int) ∨ (W = 0 ∧ pm = 64)) := by
    rcases Nat.eq_zero_or_pos W with h | h
    · right; exact ⟨h, by omega⟩
    · left; omega
  have hmax : max (n : Int) 64 = pm := hpm.symm
  have hmax2 : max 64 (n : Int) = pm := by omega
  have hnI : (n : Int) ≤ 1600 := by omega
  have un : IntKind.u32.wrap (n : Int) = (n : Int) := by rw [IntKind.wrap_u32]; omega
  have hpm0 : (64 : Int) ≤ pm := by omega
  have hpm1 : pm ≤ 1000000 := by omega
  have x0 : w.cell? ⟨gx, 0, none⟩ = some (.bool (decide (z < 0))) := hb.cell 0
  have x1 : w.cell? ⟨gx, 1, none⟩ = some (.slice (some ⟨xb, xo, none⟩) (W + 1) c) := hb.cell 1
  obtain ⟨c0, c1, c2, c3, c4, c5, c6⟩ := hf.cells
  have fz0 := Blk.frozen hf 0
  have aF0 := hf.prec pm
  obtain ⟨a0c0, a0c1, a0c2, a0c3, a0c4, a0c5, a0c6⟩ := aF0.cells
  have a0z : (w.setCell ⟨g, 0, none⟩ (.int .u32 pm)).frozen? ⟨g, 2, none⟩ = false := Blk.frozen aF0 2
  have aF1 := aF0.acc 0
  obtain ⟨a1c0, a1c1, a1c2, a1c3, a1c4, a1c5, a1c6⟩ := aF1.cells
  have a1z : ((w.setCell ⟨g, 0, none⟩ (.int .u32 pm)).setCell ⟨g, 2, none⟩ (.int .i8 0)).frozen? ⟨g, 4, none⟩ = false := Blk.frozen aF1 4
  have aF2 := aF1.neg (decide (z < 0))
  obtain ⟨a2c0, a2c1, a2c2, a2c3, a2c4, a2c5, a2c6⟩ := aF2.cells
  have hb0 : Blk (w.setCell ⟨g, 0, none⟩ (.int .u32 pm)) gx 59 #[.bool (decide (z < 0)), .slice (some ⟨xb, xo, none⟩) (W + 1) c] := Blk.far hb (k := g) (i := 0) (fun e => hne e.symm) (.int .u32 pm)
  have x00 := hb0.cell 0
  have x01 := hb0.cell 1
  have hb1 : Blk ((w.setCell ⟨g, 0, none⟩ (.int .u32 pm)).setCell ⟨g, 2, none⟩ (.int .i8 0)) gx 59 #[.bool (decide (z < 0)), .slice (some ⟨xb, xo, none⟩) (W + 1) c] := Blk.far hb0 (k := g) (i := 2) (fun e => hne e.symm) (.int .i8 0)
  have x10 := hb1.cell 0
  have x11 := hb1.cell 1
  have hb2 : Blk (((w.setCell ⟨g, 0, none⟩ (.int .u32 pm)).setCell ⟨g, 2, none⟩ (.int .i8 0)).setCell ⟨g, 4, none⟩ (.bool (decide (z < 0)))) gx 59 #[.bool (decide (z < 0)), .slice (some ⟨xb, xo, none⟩) (W + 1) c] := Blk.far hb1 (k := g) (i := 4) (fun e => hne e.symm) (.bool (decide (z < 0)))
  have x20 := hb2.cell 0
  have x21 := hb2.cell 1
  have hkV : ∀ w0, Kept w0 w → w0.heap.size ≤ g → Kept w0 (((w.setCell ⟨g, 0, none⟩ (.int .u32 pm)).setCell ⟨g, 2, none⟩ (.int .i8 0)).setCell ⟨g, 4, none⟩ (.bool (decide (z < 0)))).drew := fun w0 h1 h2 => by
    have h := kept_set (kept_set (kept_set h1 h2 0 (.int .u32 pm)) h2 2 (.int .i8 0)) h2 4 (.bool (decide (z < 0)))
    exact ⟨h.os, h.tape, h.output, h.size, h.block⟩
  have hszV : (((w.setCell ⟨g, 0, none⟩ (.int .u32 pm)).setCell ⟨g, 2, none⟩ (.int .i8 0)).setCell ⟨g, 4, none⟩ (.bool (decide (z < 0)))).drew.heap.size = w.heap.size := by simp [World.setCell, World.drew]
  have hsum : 64 * W + 64 = n + s := by omega
  have HSUM := Lib.hid hsum
  simp only [List.getElem?_toArray, List.getElem?_cons_succ, List.getElem?_cons_zero] at x00 x01 x10 x11 x20 x21
  have hTV : Two g g w (((w.setCell ⟨g, 0, none⟩ (.int .u32 pm)).setCell ⟨g, 2, none⟩ (.int .i8 0)).setCell ⟨g, 4, none⟩ (.bool (decide (z < 0)))) := ((((Two.refl g g w).set1 0 (.int .u32 pm)).set1 2 (.int .i8 0)).set1 4 (.bool (decide (z < 0))))
  have hsrcV : ∀ j, j < W + 1 → (((w.setCell ⟨g, 0, none⟩ (.int .u32 pm)).setCell ⟨g, 2, none⟩ (.int .i8 0)).setCell ⟨g, 4, none⟩ (.bool (decide (z < 0)))).drew.cell? ⟨xb, xo + j, none⟩ = some (.int .u64 ((Num.dg Num.B64 z.natAbs j : Nat) : Int)) := fun j hj => (World.cell?_of_block (a := ⟨xb, xo + j, none⟩) (hTV.block xb hxb hneb2 hneb2)).trans (hsrc j hj)
  have hSV : (((w.setCell ⟨g, 0, none⟩ (.int .u32 pm)).setCell ⟨g, 2, none⟩ (.int .i8 0)).setCell ⟨g, 4, none⟩ (.bool (decide (z < 0)))).drew.cell? ⟨g, 5, none⟩ = some (.slice none 0 0) ∧ (((w.setCell ⟨g, 0, none⟩ (.int .u32 pm)).setCell ⟨g, 2, none⟩ (.int .i8 0)).setCell ⟨g, 4, none⟩ (.bool (decide (z < 0)))).drew.cell? ⟨gx, 1, none⟩ = some (.slice (some ⟨xb, xo, none⟩) (W + 1) c) := ⟨a2c5, x21⟩
  have CSET := Lib.hid (set_own xb xo (W + 1) c z.natAbs (by omega) (by omega) (((w.setCell ⟨g, 0, none⟩ (.int .u32 pm)).setCell ⟨g, 2, none⟩ (.int .i8 0)).setCell ⟨g, 4, none⟩ (.bool (decide (z < 0)))).drew hsrcV)
  have HLW := Lib.hid hlw
  have CF : Hid (∀ (gr cap : Nat) (X : World), W + 1 ≤ cap → cap ≤ 1000000 → Rw X gr cap (W + 1) z.natAbs → Calls Try.prog 57 #[.slice (some ⟨gr, 0, none⟩) (W + 1) cap] X (NormP X gr cap (W + 1) z.natAbs s)) := Lib.hid fun gr cap X h1 h2 h3 => by
    have := fnorm_any gr cap W cap z.natAbs h1 h2 hr1 hr2 X h3
    rwa [← hn, ← hss] at this
  have HNN := Lib.hid hn
  have HSS := Lib.hid hss
  have HS64 := Lib.hid hs64
  have HPR := Lib.hid hpr
  have HBN : Hid (n ≤ 1600) := Lib.hid hbl
  have HB2 := Lib.hid hb2
  have HKV := Lib.hid hkV
  have HSZ := Lib.hid hszV
  have HF2 : Hid (FB (((w.setCell ⟨g, 0, none⟩ (.int .u32 pm)).setCell ⟨g, 2, none⟩ (.int .i8 0)).setCell ⟨g, 4, none⟩ (.bool (decide (z < 0)))).drew g pm 0 0 (decide (z < 0)) (.slice none 0 0) 0) := Lib.hid aF2
  have HLEN : Hid (W + 1 ≤ 90000) := Lib.hid (by omega)
  have HPM0 := Lib.hid hpm0
  have HPM1 := Lib.hid hpm1
  have HLG : Hid (g < (((w.setCell ⟨g, 0, none⟩ (.int .u32 pm)).setCell ⟨g, 2, none⟩ (.int .i8 0)).setCell ⟨g, 4, none⟩ (.bool (decide (z < 0)))).drew.heap.size) := Lib.hid (Nat.lt_of_lt_of_eq hlg hszV.symm)
  have HLX : Hid (gx < (((w.setCell ⟨g, 0, none⟩ (.int .u32 pm)).setCell ⟨g, 2, none⟩ (.int .i8 0)).setCell ⟨g, 4, none⟩ (.bool (decide (z < 0)))).drew.heap.size) := Lib.hid (Nat.lt_of_lt_of_eq hlx hszV.symm)
  have hwI : (0 : Int) ≤ (W : Int) := by omega
  have hz1 : ¬ ((W : Int) + 1 = 0) := by omega
  have wn : wrap64 (n : Int) = (n : Int) := by unfold wrap64; omega
  clear hsum hf aF0 aF1 aF2 hb hb0 hb1 hb2 hs hlw hlw2 hnex hlen hpos hW hr1 hr2 hr3 hcx hsrc hneb hbl hbt htw hbw hss hs64 hpm hpr hkV hszV hTV hsrcV hxb hneb2 hz hz0 hlg hlx hpm0 hpm1 hx0 hk00 hg00 hn
  have HBL := Lib.hid hBL
  clear hBL
  go_enter Try.func36, Try.ntmps36
  go_wp2_with fail
  refine (HBL.out).mono ?_
  rintro e w1 ⟨n', rfl, hl, hle, rfl⟩
  obtain rfl : n' = n := by rw [HNN.out]; exact hl.unique (blen_isLen _)
  clear hl hle
  go_wp2_with fail
  refine wp_region_lastL _ _ _ (by simp only [List.dropLast]; rfl) (by simp only [List.getLast?_cons_cons, List.getLast?_singleton]; rfl) (fun X : World => X.cell? ⟨g, 5, none⟩ = some (.slice none 0 0) ∧ X.cell? ⟨gx, 1, none⟩ = some (.slice (some ⟨xb, xo, none⟩) (W + 1) c)) (by kernel_rfl) (by kernel_rfl) (hSV) (fun hHeld => ?_)
  generalize (((w.setCell ⟨g, 0, none⟩ (.int .u32 pm)).setCell ⟨g, 2, none⟩ (.int .i8 0)).setCell ⟨g, 4, none⟩ (.bool (decide (z < 0)))).drew = vd at *
  clear hHeld
  refine wpAnyH_take (i := 0) (oi := ?o0x700) (v := ?v0x700) ?hi0x700 (by kernel_rfl) (by kernel_rfl) (by kernel_rfl) ?hQ0x700 ?hy0x700 hSV ?rest0x700
  case hi0x700 => (simp only [List.getElem?_toArray, List.getElem?_cons_zero]; rfl)
  case hQ0x700 => exact fun _ _ _ h => h
  case hy0x700 => (refine Or.inl ⟨by rfl, ?_⟩; intro W hSw; (try dsimp only at hSw); go_simp; (try with_reducible rfl))
  try simp only [Act.put, List.setIfInBounds_toArray, List.set_cons_zero, List.set_cons_succ]
  refine wpAnyH_take (i := 1) (oi := ?o1x701) (v := ?v1x701) ?hi1x701 (by kernel_rfl) (by kernel_rfl) (by kernel_rfl) ?hQ1x701 ?hy1x701 hSV ?rest1x701
  case hi1x701 => (simp only [List.getElem?_toArray, List.getElem?_cons_succ, List.getElem?_cons_zero]; rfl)
  case hQ1x701 => exact fun _ _ _ h => h
  case hy1x701 => (refine Or.inl ⟨by rfl, ?_⟩; intro W hSw; (try dsimp only at hSw); go_simp; (try with_reducible rfl))
  try simp only [Act.put, List.setIfInBounds_toArray, List.set_cons_zero, List.set_cons_succ]
  refine wpAnyH_take (i := 2) (oi := ?o2x702) (v := ?v2x702) ?hi2x702 (by kernel_rfl) (by kernel_rfl) (by kernel_rfl) ?hQ2x702 ?hy2x702 hSV ?rest2x702
  case hi2x702 => (simp only [List.getElem?_toArray, List.getElem?_cons_succ, List.getElem?_cons_zero]; rfl)
  case hQ2x702 => exact fun _ _ _ h => h
  case hy2x702 => (refine Or.inl ⟨by rfl, ?_⟩; intro W hSw; (try dsimp only at hSw); go_simp; (try with_reducible rfl))
  try simp only [Act.put, List.setIfInBounds_toArray, List.set_cons_zero, List.set_cons_succ]
  refine wpAnyH_take (i := 3) (oi := ?o3x703) (v := ?v3x703) ?hi3x703 (by kernel_rfl) (by kernel_rfl) (by kernel_rfl) ?hQ3x703 ?hy3x703 hSV ?rest3x703
  case hi3x703 => (simp only [List.getElem?_toArray, List.getElem?_cons_succ, List.getElem?_cons_zero]; rfl)
  case hQ3x703 => exact fun _ _ _ h => h
  case hy3x703 => (refine Or.inl ⟨by rfl, ?_⟩; intro W hSw; (try dsimp only at hSw); go_simp; (try with_reducible rfl))
  try simp only [Act.put, List.setIfInBounds_toArray, List.set_cons_zero, List.set_cons_succ]
  refine wpAnyH_take (i := 4) (oi := ?o4x704) (v := ?v4x704) ?hi4x704 (by kernel_rfl) (by kernel_rfl) (by kernel_rfl) ?hQ4x704 ?hy4x704 hSV ?rest4x704
  case hi4x704 => (simp only [List.getElem?_toArray, List.getElem?_cons_succ, List.getElem?_cons_zero]; rfl)
  case hQ4x704 => exact fun _ _ _ h => h
  case hy4x704 => (refine Or.inl ⟨by rfl, ?_⟩; intro W hSw; (try dsimp only at hSw); go_simp; (try with_reducible rfl))
  try simp only [Act.put, List.setIfInBounds_toArray, List.set_cons_zero, List.set_cons_succ]
  refine wpAnyH_take (i := 5) (oi := ?o5x705) (v := ?v5x705) ?hi5x705 (by kernel_rfl) (by kernel_rfl) (by kernel_rfl) ?hQ5x705 ?hy5x705 hSV ?rest5x705
  case hi5x705 => (simp only [List.getElem?_toArray, List.getElem?_cons_succ, List.getElem?_cons_zero]; rfl)
  case hQ5x705 => exact fun _ _ _ h => h
  case hy5x705 => (refine Or.inl ⟨by rfl, ?_⟩; intro W hSw; (try dsimp only at hSw); go_simp; (try with_reducible rfl))
  try simp only [Act.put, List.setIfInBounds_toArray, List.set_cons_zero, List.set_cons_succ]
  refine wpAnyH_take (i := 6) (oi := ?o6x706) (v := ?v6x706) ?hi6x706 (by kernel_rfl) (by kernel_rfl) (by kernel_rfl) ?hQ6x706 ?hy6x706 hSV ?rest6x706
  case hi6x706 => (simp only [List.getElem?_toArray, List.getElem?_cons_succ, List.getElem?_cons_zero]; rfl)
  case hQ6x706 => exact fun _ _ _ h => h
  case hy6x706 => (refine Or.inl ⟨by rfl, ?_⟩; intro W hSw; (try dsimp only at hSw); go_simp; (try with_reducible rfl))
  try simp only [Act.put, List.setIfInBounds_toArray, List.set_cons_zero, List.set_cons_succ]
  refine wpAnyH_take (i := 7) (oi := ?o7x707) (v := ?v7x707) ?hi7x707 (by kernel_rfl) (by kernel_rfl) (by kernel_rfl) ?hQ7x707 ?hy7x707 hSV ?rest7x707
  case hi7x707 => (simp only [List.getElem?_toArray, List.getElem?_cons_succ, List.getElem?_cons_zero]; rfl)
  case hQ7x707 => exact fun _ _ _ h => h
  case hy7x707 => (refine Or.inl ⟨by rfl, ?_⟩; intro W hSw; (try dsimp only at hSw); go_simp; (try with_reducible rfl))
  try simp only [Act.put, List.setIfInBounds_toArray, List.set_cons_zero, List.set_cons_succ]
  refine wpAnyH_take (i := 8) (oi := ?o8x708) (v := ?v8x708) ?hi8x708 (by kernel_rfl) (by kernel_rfl) (by kernel_rfl) ?hQ8x708 ?hy8x708 hSV ?rest8x708
  case hi8x708 => (simp only [List.getElem?_toArray, List.getElem?_cons_succ, List.getElem?_cons_zero]; rfl)
  case hQ8x708 => exact fun _ _ _ h => h
  case hy8x708 => (refine Or.inl ⟨by rfl, ?_⟩; intro W hSw; (try dsimp only at hSw); go_simp; (try with_reducible rfl))
  try simp only [Act.put, List.setIfInBounds_toArray, List.set_cons_zero, List.set_cons_succ]
  refine wpAnyH_ready (rs := [9]) (by kernel_rfl) (by simp) ?_
  refine (AllReadyH.cons rfl (fun K hK => ?_) AllReadyH.nil)
  go_simp
  (with_reducible refine Calls.mono CSET.out ?_)
  rintro e v2 ⟨cap, rfl, hcap1, hcap2, hRW, hk2⟩
  have hS2 : v2.cell? ⟨g, 5, none⟩ = some (.slice none 0 0) ∧ v2.cell? ⟨gx, 1, none⟩ = some (.slice (some ⟨xb, xo, none⟩) (W + 1) c) := ⟨(hk2.cell (p := ⟨g, 5, none⟩) HLG.out).trans hSV.1, (hk2.cell (p := ⟨gx, 1, none⟩) HLX.out).trans hSV.2⟩
  refine hK.out _ _ ?_ (fun hHeld => ?_)
  · (exact hS2)
  clear hK K
  try simp only [Act.put, List.setIfInBounds_toArray, List.set_cons_zero, List.set_cons_succ]
  refine wpAnyH_take (i := 10) (oi := ?o10x709) (v := ?v10x709) ?hi10x709 (by kernel_rfl) (by kernel_rfl) (by kernel_rfl) ?hQ10x709 ?hy10x709 hS2 ?rest10x709
  case hi10x709 => (simp only [List.getElem?_toArray, List.getElem?_cons_succ, List.getElem?_cons_zero]; rfl)
  case hQ10x709 => exact fun _ _ _ h => h
  case hy10x709 => (refine Or.inl ⟨by rfl, ?_⟩; intro W hSw; (try dsimp only at hSw); go_simp; (try with_reducible rfl))
  try simp only [Act.put, List.setIfInBounds_toArray, List.set_cons_zero, List.set_cons_succ]
  refine wpAnyH_take (i := 11) (oi := ?o11x710) (v := ?v11x710) ?hi11x710 (by kernel_rfl) (by kernel_rfl) (by kernel_rfl) ?hQ11x710 ?hy11x710 hS2 ?rest11x710
  case hi11x710 => (simp only [List.getElem?_toArray, List.getElem?_cons_succ, List.getElem?_cons_zero]; rfl)
  case hQ11x710 => exact fun _ _ _ h => h
  case hy11x710 => (refine Or.inl ⟨by rfl, ?_⟩; intro W hSw; (try dsimp only at hSw); go_simp; (try with_reducible rfl))
  try simp only [Act.put, List.setIfInBounds_toArray, List.set_cons_zero, List.set_cons_succ]
  refine wpAnyH_done (by kernel_rfl) ?_ _
  simp only [lastQ]
  have hgr : g < vd.heap.size := HLG.out
  obtain ⟨gr, hgre⟩ : ∃ gr, gr = vd.heap.size := ⟨_, rfl⟩
  rw [← hgre] at hRW hgr ⊢
  have hF2 : FB v2 g pm 0 0 (decide (z < 0)) (.slice none 0 0) 0 := Blk.below HF2.out hk2
  have fz5 := Blk.frozen hF2 5
  have hs25 := hS2.1
  have hF3 := hF2.mant (.slice (some ⟨gr, 0, none⟩) (W + 1) cap)
  obtain ⟨e0, e1, e2, e3, e4, e5, e6⟩ := hF3.cells
  have hR3 := hRW.far (set_grown v2 g 5 (.slice (some ⟨gr, 0, none⟩) (W + 1) cap)) (by omega)
  have hK3 : ∀ w0, Kept w0 w → w0.heap.size ≤ g → Kept w0 (v2.setCell ⟨g, 5, none⟩ (.slice (some ⟨gr, 0, none⟩) (W + 1) cap)) := fun w0 h1 h2 => kept_set ((show Kept w0 vd from HKV.out w0 h1 h2).trans hk2) h2 5 _
  have HCF := Lib.hid (CF.out gr cap _ hcap1 (by have := HLEN.out; omega) hR3)
  have HF3 := Lib.hid hF3
  have HK3 := Lib.hid hK3
  have HGR : Hid (w.heap.size ≤ gr) := Lib.hid (by rw [hgre]; exact Nat.le_of_eq HSZ.out.symm)
  have HNG : Hid (g ≠ gr) := Lib.hid (by omega)
  have HC1 := Lib.hid hcap1
  have HC2 : Hid (cap ≤ 99999) := Lib.hid (by have := HLEN.out; omega)
  clear hF2 hF3 hR3 hK3 hRW hk2 hgre hgr hS2 hSV hcap1 hcap2
  go_wp2_with fail
  (with_reducible refine Calls.mono HCF.out ?_)
  rintro e v4 ⟨rfl, hR4, hg4⟩
  have hF4 := HF3.out.far hg4 HNG.out
  have hK4 : ∀ w0, Kept w0 w → w0.heap.size ≤ g → Kept w0 v4 := fun w0 h1 h2 => (Two.grown2 (Two.refl g gr _) hg4).kept (HK3.out w0 h1 h2) h2 (Nat.le_trans (h1.size) HGR.out)
  have HCE := Lib.hid (setExp_any g gr cap W z.natAbs s n' pm HS64.out HPR.out (by have := HBN.out; omega) (decide (z < 0)) 0 0 0 HNG.out HC1.out (by have := HC2.out; omega) v4 hF4 hR4)
  have HK4 := Lib.hid hK4
  clear hR4 hg4 hF4 hK4
  go_wp2_with fail
  (with_reducible refine Calls.mono HCE.out ?_)
  rintro e v5 ⟨rfl, hF5, hR5, hT5⟩
  have HF5 := Lib.hid hF5
  have HR5 := Lib.hid hR5
  have HT5 := Lib.hid hT5
  clear hF5 hR5 hT5
  go_wp2_with fail
  go_ret
  refine ⟨rfl, ⟨gr, cap, W, s, pm, HS64.out, by rw [← HNN.out]; exact HSUM.out, HGR.out, HC1.out, HC2.out, HPM0.out, HPM1.out, by rw [← HNN.out]; exact HF5.out, HR5.out⟩, fun w0 h1 h2 => HT5.out.kept (HK4.out w0 h1 h2) h2 (Nat.le_trans h1.size HGR.out)⟩
end Go.Proofs.Ytnheiigdgklbcaa
