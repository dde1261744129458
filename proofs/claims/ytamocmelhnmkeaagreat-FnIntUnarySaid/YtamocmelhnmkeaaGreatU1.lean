import Derived.Test.YtamocmelhnmkeaaGreatW9
import Derived.Test.YtamocmelhnmkeaaGreatIn
import Derived.Test.YtamocmelhnmkeaaGreatSz
import Derived.Test.YtamocmelhnmkeaaGreatLa
namespace Go.Proofs.YtamocmelhnmkeaaGreat
open Go.ChangeShapes Go.WideShapes Go.ChangeAt Go.RowKit
set_option linter.unusedVariables false
/-- the store of a number and of its sign into a new integer -/
theorem fin_store {w w1 : World} {g : Nat} {A1 : Option Addr} {k1 : Nat} {ws : List Nat} {z : Int} {b : Bool} (hg : BI0 w g) (hk : Kept w w1) (hs : Sl w1 A1 k1 (w64 ws)) (hf : Fr w.heap.size A1) (hl : LW ws z.natAbs) (hb : decide (z < 0) = b) :
    w1.cell? ⟨g, 1, none⟩ = some (.slice none 0 0) ∧ w1.frozen? ⟨g, 1, none⟩ = false ∧
    (w1.setCell ⟨g, 1, none⟩ (.slice A1 ws.length k1)).cell? ⟨g, 0, none⟩ = some (.bool false) ∧ (w1.setCell ⟨g, 1, none⟩ (.slice A1 ws.length k1)).frozen? ⟨g, 0, none⟩ = false ∧
    RetPF w g z (.returned (.pointer (some ⟨g, 0, none⟩))) ((w1.setCell ⟨g, 1, none⟩ (.slice A1 ws.length k1)).setCell ⟨g, 0, none⟩ (.bool b)) := by
  have lg := Blk.lt hg
  have hg1 : BI0 w1 g := (hk.block g lg).trans hg
  have hg2 := Blk.set hg1 1 (.slice A1 ws.length k1)
  have hne1 : ∀ b off, A1 = some ⟨b, off, none⟩ → b ≠ g ∧ w.heap.size ≤ b := fun b off h => by have h1 := (hf _ h).1; have h2 : w.heap.size ≤ b := h1; exact ⟨by omega, h2⟩
  have hs2 := (hs.setFar (i := 1) (fun b off h => (hne1 b off h).1) (.slice A1 ws.length k1)).setFar (i := 0) (fun b off h => (hne1 b off h).1) (.bool b)
  have ho2 := only_set (only_set (only_of_kept hk (some g)) 1 (.slice A1 ws.length k1)) 0 (.bool b)
  have hg3 : Blk ((w1.setCell ⟨g, 1, none⟩ (.slice A1 ws.length k1)).setCell ⟨g, 0, none⟩ (.bool b)) g 114 #[.bool (decide (z < 0)), .slice A1 ws.length k1] := by rw [hb]; simpa using Blk.set hg2 0 (.bool b)
  exact ⟨Blk.cell hg1 1, Blk.frozen hg1 1, Blk.cell hg2 0, Blk.frozen hg2 0, RetPF.of hg3 hs2 hl hne1 ho2⟩
set_option maxRecDepth 100000 in
/-- nothing is below what is not nothing -/
theorem cmp_nil (A0 A : Option Addr) (n c0 c : Nat) (hn : 0 < n) (w : World) : Calls Tryz.prog 111 #[.slice A0 0 c0, .slice A n c] w fun e w' => e = .returned (.int .i64 (-1)) ∧ w = w' := by
  have h1 : (0 : Int) < (n : Int) := by omega
  have h2 : ((0 : Int) == (n : Int)) = false := by rw [beq_eq_false_iff_ne]; omega
  have h3 : ((0 : Int) != (n : Int)) = true := by simp; omega
  have h4 : ¬ ((0 : Int) = (n : Int)) := by omega
  have h5 : ¬ (0 = n) := by omega
  go_enter Tryz.func111, Tryz.ntmps111
  go_wp2_with fail
  go_ret
  exact ⟨rfl, rfl⟩
set_option maxRecDepth 100000 in
theorem subR_any (A0 : Option Addr) (c0 : Nat) (A : Option Addr) (c : Nat) (ws : List Nat) (hl : ws.length ≤ 268435456) (h0 : 0 < ws.length) (w : World) (hs : Sl w A c (w64 ws)) :
    Calls Tryz.prog 112 #[.slice none 0 0, .slice A ws.length c, .slice A0 0 c0] w (RetWs w ws) := by
  have HS := Lib.hid (set_any A c ws hl w hs)
  have n1 : ¬ ((ws.length : Int) < 0) := by omega
  have n2 : ((ws.length : Int) == 0) = false := by rw [beq_eq_false_iff_ne]; omega
  clear hs
  go_enter Tryz.func112, Tryz.ntmps112
  go_wp2_with fail
  refine (HS.out).mono ?_
  rintro e w1 ⟨A1, c1, rfl, q⟩
  have Q := Lib.hid q
  clear q
  go_wp2_with fail
  go_ret
  exact ⟨A1, c1, rfl, Q.out⟩
set_option maxRecDepth 100000 in
set_option maxHeartbeats 4000000 in
theorem SubZeroP_any (g x y : Nat) (z : Int) (hz : z.natAbs < Num.Cap) (hn : 0 < z) (w : World) (hg : BI0 w g) (hx : BI w x 0) (hy : BI w y z) :
    Calls Tryz.prog 81 #[.pointer (some ⟨g, 0, none⟩), .pointer (some ⟨x, 0, none⟩), .pointer (some ⟨y, 0, none⟩)] w (RetPF w g (-z)) := by
  obtain ⟨A0, c0, ws0, hb0, _, hl0, _⟩ := hx
  obtain rfl : ws0 = [] := hl0.nil_iff.2 rfl
  obtain ⟨A, c, ws, hb, hs, hlw, hne⟩ := hy
  have hlen : ws.length ≤ 268435456 := by have := hlw.len hz; omega
  have hpos := hlw.len_pos (by omega)
  have hd0 : decide ((0 : Int) < 0) = false := rfl
  rw [hd0] at hb0
  have hd1 : decide (z < 0) = false := decide_eq_false (by omega)
  rw [hd1] at hb
  have g1 : w.cell? ⟨g, 1, none⟩ = some (.slice none 0 0) := Blk.cell hg 1
  have x0 : w.cell? ⟨x, 0, none⟩ = some (.bool false) := hb0.cell 0
  have x1 : w.cell? ⟨x, 1, none⟩ = some (.slice A0 0 c0) := hb0.cell 1
  have y0 : w.cell? ⟨y, 0, none⟩ = some (.bool false) := hb.cell 0
  have y1 : w.cell? ⟨y, 1, none⟩ = some (.slice A ws.length c) := hb.cell 1
  have lg := Blk.lt hg
  have lx := Blk.lt hb0
  have ly := Blk.lt hb
  have KEEP : Hid (∀ W : World, Kept w W → W.cell? ⟨g, 1, none⟩ = some (.slice none 0 0) ∧ W.cell? ⟨x, 1, none⟩ = some (.slice A0 0 c0) ∧ W.cell? ⟨y, 1, none⟩ = some (.slice A ws.length c)) := Lib.hid fun W h => ⟨(h.cell lg).trans g1, (h.cell lx).trans x1, (h.cell ly).trans y1⟩
  have HSU : Hid (∀ W : World, Kept w W → Calls Tryz.prog 112 #[.slice none 0 0, .slice A ws.length c, .slice A0 0 c0] W (RetNat W (-z).natAbs)) := Lib.hid fun W hk =>
    (subR_any A0 c0 A c ws hlen hpos W (hs.below hk)).mono fun e w' h => RetNat.of_ws (by rw [Int.natAbs_neg]; exact hlw) e w' h
  have HCM : Hid (∀ W : World, Calls Tryz.prog 111 #[.slice A0 0 c0, .slice A ws.length c] W fun e w' => e = .returned (.int .i64 (-1)) ∧ W = w') := Lib.hid fun W => cmp_nil A0 A ws.length c0 c hpos W
  have HG := Lib.hid hg
  have HNZ : Hid (decide (-z < 0) = true) := Lib.hid (decide_eq_true (by omega))
  have HN0 : Hid ((-z).natAbs ≠ 0) := Lib.hid (by omega)
  clear hs hne hlw hb hg hb0 hn hd0 hd1 hl0 hz hpos hlen
  go_enter Tryz.func81, Tryz.ntmps81
  go_wp2_with fail
  go_quiet (fail)
  go_wp2_with fail
  have hk0 : Kept w (w.drewN nq) := below_drewN (Below.refl _ _) nq
  generalize w.drewN nq = w0 at *
  go_region_held3 (fun W : World => W.cell? ⟨g, 1, none⟩ = some (.slice none 0 0) ∧ W.cell? ⟨x, 1, none⟩ = some (.slice A0 0 c0) ∧ W.cell? ⟨y, 1, none⟩ = some (.slice A ws.length c))
    (exact KEEP.out _ (by go_grown))
    ((go_at_call 111
      (with_reducible refine Calls.mono (HCM.out _) ?_)
      rintro e w1 ⟨rfl, rfl⟩))
  go_wp2_with fail
  have hkd : Kept w w0.drew := by go_grown
  generalize w0.drew = w1 at *
  have hQ := KEEP.out w1.drew (by go_grown)
  refine wp_region_lastL _ _ _ (by simp only [List.dropLast]; rfl) (by simp only [List.getLast?_cons_cons, List.getLast?_singleton]; rfl) (fun W : World => W.cell? ⟨g, 1, none⟩ = some (.slice none 0 0) ∧ W.cell? ⟨x, 1, none⟩ = some (.slice A0 0 c0) ∧ W.cell? ⟨y, 1, none⟩ = some (.slice A ws.length c)) (by kernel_rfl) (by kernel_rfl) (hQ) (fun hHeld => ?_)
  refine wpAnyH_take (i := 0) (oi := ?o0x0) (v := ?v0x0) ?hi0x0 (by kernel_rfl) (by kernel_rfl) (by kernel_rfl) ?hQ0x0 ?hy0x0 (by assumption) ?rest0x0
  case hi0x0 => (simp only [List.getElem?_toArray, List.getElem?_cons_zero]; rfl)
  case hQ0x0 => exact fun _ _ _ h => h
  case hy0x0 => (refine Or.inl ⟨by rfl, ?_⟩; intro W hSw; (try dsimp only at hSw); go_simp; (try with_reducible rfl))
  try simp only [Act.put, List.setIfInBounds_toArray, List.set_cons_zero, List.set_cons_succ]
  refine wpAnyH_take (i := 1) (oi := ?o1x1) (v := ?v1x1) ?hi1x1 (by kernel_rfl) (by kernel_rfl) (by kernel_rfl) ?hQ1x1 ?hy1x1 (by assumption) ?rest1x1
  case hi1x1 => (simp only [List.getElem?_toArray, List.getElem?_cons_succ, List.getElem?_cons_zero]; rfl)
  case hQ1x1 => exact fun _ _ _ h => h
  case hy1x1 => (refine Or.inl ⟨by rfl, ?_⟩; intro W hSw; (try dsimp only at hSw); go_simp; (try with_reducible rfl))
  try simp only [Act.put, List.setIfInBounds_toArray, List.set_cons_zero, List.set_cons_succ]
  refine wpAnyH_take (i := 2) (oi := ?o2x2) (v := ?v2x2) ?hi2x2 (by kernel_rfl) (by kernel_rfl) (by kernel_rfl) ?hQ2x2 ?hy2x2 (by assumption) ?rest2x2
  case hi2x2 => (simp only [List.getElem?_toArray, List.getElem?_cons_succ, List.getElem?_cons_zero]; rfl)
  case hQ2x2 => exact fun _ _ _ h => h
  case hy2x2 => (refine Or.inl ⟨by rfl, ?_⟩; intro W hSw; (try dsimp only at hSw); go_simp; (try with_reducible rfl))
  try simp only [Act.put, List.setIfInBounds_toArray, List.set_cons_zero, List.set_cons_succ]
  refine wpAnyH_take (i := 3) (oi := ?o3x3) (v := ?v3x3) ?hi3x3 (by kernel_rfl) (by kernel_rfl) (by kernel_rfl) ?hQ3x3 ?hy3x3 (by assumption) ?rest3x3
  case hi3x3 => (simp only [List.getElem?_toArray, List.getElem?_cons_succ, List.getElem?_cons_zero]; rfl)
  case hQ3x3 => exact fun _ _ _ h => h
  case hy3x3 => (refine Or.inl ⟨by rfl, ?_⟩; intro W hSw; (try dsimp only at hSw); go_simp; (try with_reducible rfl))
  try simp only [Act.put, List.setIfInBounds_toArray, List.set_cons_zero, List.set_cons_succ]
  refine wpAnyH_take (i := 4) (oi := ?o4x4) (v := ?v4x4) ?hi4x4 (by kernel_rfl) (by kernel_rfl) (by kernel_rfl) ?hQ4x4 ?hy4x4 (by assumption) ?rest4x4
  case hi4x4 => (simp only [List.getElem?_toArray, List.getElem?_cons_succ, List.getElem?_cons_zero]; rfl)
  case hQ4x4 => exact fun _ _ _ h => h
  case hy4x4 => (refine Or.inl ⟨by rfl, ?_⟩; intro W hSw; (try dsimp only at hSw); go_simp; (try with_reducible rfl))
  try simp only [Act.put, List.setIfInBounds_toArray, List.set_cons_zero, List.set_cons_succ]
  refine wpAnyH_take (i := 5) (oi := ?o5x5) (v := ?v5x5) ?hi5x5 (by kernel_rfl) (by kernel_rfl) (by kernel_rfl) ?hQ5x5 ?hy5x5 (by assumption) ?rest5x5
  case hi5x5 => (simp only [List.getElem?_toArray, List.getElem?_cons_succ, List.getElem?_cons_zero]; rfl)
  case hQ5x5 => exact fun _ _ _ h => h
  case hy5x5 => (refine Or.inl ⟨by rfl, ?_⟩; intro W hSw; (try dsimp only at hSw); go_simp; (try with_reducible rfl))
  try simp only [Act.put, List.setIfInBounds_toArray, List.set_cons_zero, List.set_cons_succ]
  refine wpAnyH_take (i := 6) (oi := ?o6x6) (v := ?v6x6) ?hi6x6 (by kernel_rfl) (by kernel_rfl) (by kernel_rfl) ?hQ6x6 ?hy6x6 (by assumption) ?rest6x6
  case hi6x6 => (simp only [List.getElem?_toArray, List.getElem?_cons_succ, List.getElem?_cons_zero]; rfl)
  case hQ6x6 => exact fun _ _ _ h => h
  case hy6x6 => (refine Or.inl ⟨by rfl, ?_⟩; intro W hSw; (try dsimp only at hSw); go_simp; (try with_reducible rfl))
  try simp only [Act.put, List.setIfInBounds_toArray, List.set_cons_zero, List.set_cons_succ]
  refine wpAnyH_take (i := 7) (oi := ?o7x7) (v := ?v7x7) ?hi7x7 (by kernel_rfl) (by kernel_rfl) (by kernel_rfl) ?hQ7x7 ?hy7x7 (by assumption) ?rest7x7
  case hi7x7 => (simp only [List.getElem?_toArray, List.getElem?_cons_succ, List.getElem?_cons_zero]; rfl)
  case hQ7x7 => exact fun _ _ _ h => h
  case hy7x7 => (refine Or.inl ⟨by rfl, ?_⟩; intro W hSw; (try dsimp only at hSw); go_simp; (try with_reducible rfl))
  try simp only [Act.put, List.setIfInBounds_toArray, List.set_cons_zero, List.set_cons_succ]
  refine wpAnyH_take (i := 8) (oi := ?o8x8) (v := ?v8x8) ?hi8x8 (by kernel_rfl) (by kernel_rfl) (by kernel_rfl) ?hQ8x8 ?hy8x8 (by assumption) ?rest8x8
  case hi8x8 => (simp only [List.getElem?_toArray, List.getElem?_cons_succ, List.getElem?_cons_zero]; rfl)
  case hQ8x8 => exact fun _ _ _ h => h
  case hy8x8 => (refine Or.inl ⟨by rfl, ?_⟩; intro W hSw; (try dsimp only at hSw); go_simp; (try with_reducible rfl))
  try simp only [Act.put, List.setIfInBounds_toArray, List.set_cons_zero, List.set_cons_succ]
  refine wpAnyH_take (i := 9) (oi := ?o9x9) (v := ?v9x9) ?hi9x9 (by kernel_rfl) (by kernel_rfl) (by kernel_rfl) ?hQ9x9 ?hy9x9 (by assumption) ?rest9x9
  case hi9x9 => (simp only [List.getElem?_toArray, List.getElem?_cons_succ, List.getElem?_cons_zero]; rfl)
  case hQ9x9 => exact fun _ _ _ h => h
  case hy9x9 => (refine Or.inl ⟨by rfl, ?_⟩; intro W hSw; (try dsimp only at hSw); go_simp; (try with_reducible rfl))
  try simp only [Act.put, List.setIfInBounds_toArray, List.set_cons_zero, List.set_cons_succ]
  refine wpAnyH_take (i := 10) (oi := ?o10x10) (v := ?v10x10) ?hi10x10 (by kernel_rfl) (by kernel_rfl) (by kernel_rfl) ?hQ10x10 ?hy10x10 (by assumption) ?rest10x10
  case hi10x10 => (simp only [List.getElem?_toArray, List.getElem?_cons_succ, List.getElem?_cons_zero]; rfl)
  case hQ10x10 => exact fun _ _ _ h => h
  case hy10x10 => (refine Or.inl ⟨by rfl, ?_⟩; intro W hSw; (try dsimp only at hSw); go_simp; (try with_reducible rfl))
  try simp only [Act.put, List.setIfInBounds_toArray, List.set_cons_zero, List.set_cons_succ]
  refine wpAnyH_take (i := 11) (oi := ?o11x11) (v := ?v11x11) ?hi11x11 (by kernel_rfl) (by kernel_rfl) (by kernel_rfl) ?hQ11x11 ?hy11x11 (by assumption) ?rest11x11
  case hi11x11 => (simp only [List.getElem?_toArray, List.getElem?_cons_succ, List.getElem?_cons_zero]; rfl)
  case hQ11x11 => exact fun _ _ _ h => h
  case hy11x11 => (refine Or.inl ⟨by rfl, ?_⟩; intro W hSw; (try dsimp only at hSw); go_simp; (try with_reducible rfl))
  try simp only [Act.put, List.setIfInBounds_toArray, List.set_cons_zero, List.set_cons_succ]
  refine wpAnyH_take (i := 12) (oi := ?o12x12) (v := ?v12x12) ?hi12x12 (by kernel_rfl) (by kernel_rfl) (by kernel_rfl) ?hQ12x12 ?hy12x12 (by assumption) ?rest12x12
  case hi12x12 => (simp only [List.getElem?_toArray, List.getElem?_cons_succ, List.getElem?_cons_zero]; rfl)
  case hQ12x12 => exact fun _ _ _ h => h
  case hy12x12 => (refine Or.inl ⟨by rfl, ?_⟩; intro W hSw; (try dsimp only at hSw); go_simp; (try with_reducible rfl))
  try simp only [Act.put, List.setIfInBounds_toArray, List.set_cons_zero, List.set_cons_succ]
  refine wpAnyH_ready (rs := [13]) (by kernel_rfl) (by simp) ?_
  refine (AllReadyH.cons rfl (fun K hK => ?_) AllReadyH.nil)
  go_simp
  (with_reducible refine Calls.mono (HSU.out _ (by go_grown)) ?_)
  rintro e w4 ⟨A4, c4, ws4, rfl, hs4, hf4, hl4, hk4⟩
  have hL4 : Kept w w4 := hkd.trans ⟨hk4.os, hk4.tape, hk4.output, hk4.size, hk4.block⟩
  refine hK.out _ _ ?_ (fun hHeld => ?_)
  · (exact KEEP.out _ hL4)
  clear hK K
  try simp only [Act.put, List.setIfInBounds_toArray, List.set_cons_zero, List.set_cons_succ]
  refine wpAnyH_take (i := 14) (oi := ?o14x13) (v := ?v14x13) ?hi14x13 (by kernel_rfl) (by kernel_rfl) (by kernel_rfl) ?hQ14x13 ?hy14x13 (by assumption) ?rest14x13
  case hi14x13 => (simp only [List.getElem?_toArray, List.getElem?_cons_succ, List.getElem?_cons_zero]; rfl)
  case hQ14x13 => exact fun _ _ _ h => h
  case hy14x13 => (refine Or.inl ⟨by rfl, ?_⟩; intro W hSw; (try dsimp only at hSw); go_simp; (try with_reducible rfl))
  try simp only [Act.put, List.setIfInBounds_toArray, List.set_cons_zero, List.set_cons_succ]
  refine wpAnyH_take (i := 15) (oi := ?o15x14) (v := ?v15x14) ?hi15x14 (by kernel_rfl) (by kernel_rfl) (by kernel_rfl) ?hQ15x14 ?hy15x14 (by assumption) ?rest15x14
  case hi15x14 => (simp only [List.getElem?_toArray, List.getElem?_cons_succ, List.getElem?_cons_zero]; rfl)
  case hQ15x14 => exact fun _ _ _ h => h
  case hy15x14 => (refine Or.inl ⟨by rfl, ?_⟩; intro W hSw; (try dsimp only at hSw); go_simp; (try with_reducible rfl))
  try simp only [Act.put, List.setIfInBounds_toArray, List.set_cons_zero, List.set_cons_succ]
  refine wpAnyH_done (by kernel_rfl) ?_ _
  have hff : Fr w.heap.size A4 := fun a ha => by
    have := hf4 a ha
    exact ⟨Nat.le_trans hkd.size this.1, this.2⟩
  have hp4 : (0 : Int) < (ws4.length : Int) := by have := hl4.len_pos HN0.out; omega
  obtain ⟨q1, q2, q3', q4, q5⟩ := fin_store HG.out hL4 hs4 hff hl4 HNZ.out
  have k6 := (Blk.set ((hL4.block g lg).trans HG.out) 1 (.slice A4 ws4.length c4)).cell 1
  simp only [List.getElem?_toArray, List.setIfInBounds_toArray] at k6
  have FIN := Lib.hid q5
  clear q5 hs4 hf4 hl4 hk4 hff
  simp only [lastQ]
  go_wp2_with fail
  go_ret
  exact FIN.out
set_option maxRecDepth 100000 in
set_option maxHeartbeats 1000000 in
theorem iSub0g_any (x : Int) (p : Option Addr) (z : Int) (hz : z.natAbs < Num.Cap) (w : World) (hv : StI w (.agg #[.int .i64 x, .pointer p]) z) :
    Calls Tryz.prog 51 #[.agg #[.int .i64 0, .pointer none], .agg #[.int .i64 x, .pointer p]] w (RetStI w (-z)) := by
  have hv' := hv
  rcases hv with ⟨e, hs⟩ | ⟨g, e, hb, hs⟩
  · injection e with e; injection e with e; injection e with e1 e2; injection e2 with e2 _; injection e1 with _ e1; injection e2 with e2; subst e1 e2
    obtain ⟨r1, r2⟩ := of_decide_eq_true hs
    have b1 : Blk (((w.alloc (.cells #[.int .i64 0, .pointer none] 75)).alloc (.cells #[.int .i64 x, .pointer none] 75)).alloc (.cells #[.int .i64 0, .pointer none] 75)) (w.heap.size + 1) 75 #[.int .i64 x, .pointer none] := by
      have := (Blk.new (w.alloc (.cells #[.int .i64 0, .pointer none] 75)) 75 #[.int .i64 x, .pointer none]).below ((Below.refl _ _).alloc (Nat.le_refl _) (.cells #[.int .i64 0, .pointer none] 75))
      rwa [World.size_alloc] at this
    have b2 : Blk (((w.alloc (.cells #[.int .i64 0, .pointer none] 75)).alloc (.cells #[.int .i64 x, .pointer none] 75)).alloc (.cells #[.int .i64 0, .pointer none] 75)) (w.heap.size + 1 + 1) 75 #[.int .i64 0, .pointer none] := by
      have := Blk.new ((w.alloc (.cells #[.int .i64 0, .pointer none] 75)).alloc (.cells #[.int .i64 x, .pointer none] 75)) 75 #[.int .i64 0, .pointer none]
      rwa [World.size_alloc, World.size_alloc] at this
    have hk0 : Kept w (((w.alloc (.cells #[.int .i64 0, .pointer none] 75)).alloc (.cells #[.int .i64 x, .pointer none] 75)).alloc (.cells #[.int .i64 0, .pointer none] 75)) := by go_grown
    clear hs hv'
    go_enter Tryz.func51, Tryz.ntmps51
    go_wp2_with fail
    generalize (((w.alloc (.cells #[.int .i64 0, .pointer none] 75)).alloc (.cells #[.int .i64 x, .pointer none] 75)).alloc (.cells #[.int .i64 0, .pointer none] 75)) = W at *
    refine (get_any 0 none W).mono ?_
    rintro e w1 ⟨rfl, hk1⟩
    have c2 := (b1.below hk1).cell 0
    have c3 := (b1.below hk1).cell 1
    have B2 := Lib.hid (b2.below hk1)
    have hkk1 : Kept w w1 := Below.trans hk0 (hk1.mono hk0.size)
    simp only [List.getElem?_toArray, List.getElem?_cons_zero, List.getElem?_cons_succ] at c2 c3
    clear b1 b2 hk1 hk0
    go_wp2_with fail
    refine (get_any x none w1).mono ?_
    rintro e w2 ⟨rfl, hk2⟩
    have B3 := Lib.hid (B2.out.below hk2)
    have HK2 : Hid (Kept w w2) := Lib.hid (hkk1.trans hk2)
    have l3 : w.heap.size + 1 + 1 < w2.heap.size := B3.out.lt
    clear c2 c3 hk2 hkk1 B2
    go_wp2_with fail
    refine (MakeInt64_any (-x) (by omega) (by omega) w2).mono ?_
    rintro e w3 ⟨v3, rfl, hv3, hk3⟩
    have H := Lib.hid (B3.out.below hk3)
    have HV := Lib.hid (hv3.mono (B' := w.heap.size + 1 + 1 + 1) (by omega))
    obtain ⟨x3, p3, rfl⟩ := hv3.two
    have HK3 : Hid (Kept w w3) := Lib.hid (Below.trans HK2.out (hk3.mono HK2.out.size))
    clear hv3 hk3
    go_wp2_with (refine wpList_store_row rfl 75 (.tmp 4) (.tmp 35) rfl (w.heap.size + 1 + 1) _ rfl rfl 75 _ H.out info_stI rfl (by simp [Value.oneCell']) ?_)
    refine bodyPost_blk (cs := #[.int .i64 x3, .pointer p3]) rfl rfl (setRow_heap _ _ _ _ _ _ H.out) Tryz.underlying75 rfl (by exact info_stI) rfl ?_
    exact ⟨_, rfl, (HV.out.setRow (by omega)).mono (by omega), below_setRow HK3.out (by omega) _⟩
  · injection e with e; injection e with e; injection e with e1 e2; injection e2 with e2 _; injection e1 with _ e1; injection e2 with e2; subst e1 e2
    by_cases hn : z < 0
    · exact iSub_big1 0 0 ⟨g, 0, none⟩ 0 z (-z) (by rw [Int.natAbs_neg]; exact hz) w (.inl ⟨rfl, by decide⟩) hv' (fun g a b W h1 h2 h3 h4 h5 => SubZero_any g a b z hz hn W h1 h2 h3 h4 h5)
    · have hp : 0 < z := by
        have h0 : z ≠ 0 := fun e => by subst e; exact absurd hs (by decide)
        omega
      exact iSub_big1 0 0 ⟨g, 0, none⟩ 0 z (-z) (by rw [Int.natAbs_neg]; exact hz) w (.inl ⟨rfl, by decide⟩) hv' (fun g a b W h1 h2 h3 h4 h5 => SubZeroP_any g a b z hz hp W h1 h2 h3)
theorem i64_xor_neg1 (x : Int) (h1 : -9223372036854775808 ≤ x) (h2 : x < 9223372036854775808) : bits .xor .i64 (-1) x = -x - 1 := by
  show IntKind.i64.wrap ((BitVec.ofInt 64 (-1) ^^^ BitVec.ofInt 64 x).toNat : Int) = _
  have e : BitVec.ofInt 64 (-1) = BitVec.allOnes 64 := by decide
  rw [e, BitVec.allOnes_xor, BitVec.toNat_not, BitVec.toNat_ofInt, IntKind.wrap_i64]
  have e2 : ((2 ^ 64 : Nat) : Int) = 18446744073709551616 := by decide
  have e3 : (2 : Nat) ^ 64 = 18446744073709551616 := by decide
  rw [e2, e3]
  omega
set_option maxRecDepth 100000 in
set_option maxHeartbeats 4000000 in
theorem bigNot_neg (g x : Nat) (X : Int) (hX : X.natAbs < Num.Cap) (h0 : X < 0) (w : World) (hg : BI0 w g) (hx : BI w x X) :
    Calls Tryz.prog 84 #[.pointer (some ⟨g, 0, none⟩), .pointer (some ⟨x, 0, none⟩)] w (RetPF w g (-X - 1)) := by
  obtain ⟨Ax, cx, xs, hbx, hsx, hlx, _⟩ := hx
  rw [decide_eq_true h0] at hbx
  have g1 : w.cell? ⟨g, 1, none⟩ = some (.slice none 0 0) := Blk.cell hg 1
  have x0 : w.cell? ⟨x, 0, none⟩ = some (.bool true) := hbx.cell 0
  have x1 : w.cell? ⟨x, 1, none⟩ = some (.slice Ax xs.length cx) := hbx.cell 1
  have lgx := Blk.lt hbx
  have lgg := Blk.lt hg
  have lx := hlx.len hX
  have hV : (-X - 1).natAbs = X.natAbs - 1 := by omega
  have hX1 : X.natAbs = (X.natAbs - 1) + 1 := by omega
  have HDX : Hid (∀ (W : World) (A : Option Addr) (c : Nat), Kept w W → Sl W A c (w64 [1]) → Calls Tryz.prog 112 #[.slice none 0 0, .slice Ax xs.length cx, .slice A 1 c] W (RetNat W (-X - 1).natAbs)) := Lib.hid fun W A c hk hs => by
    rw [hV]
    exact natDec_any Ax A cx c xs (X.natAbs - 1) (by rw [← hX1]; exact hlx) (by omega) W (hsx.below hk) hs
  have HZ : Hid (decide (-X - 1 < 0) = false) := Lib.hid (decide_eq_false (by omega))
  have HG := Lib.hid hg
  clear hV hsx hlx hbx hg lx hX h0 hX1
  generalize -X - 1 = Z at *
  have KEEP : Hid (∀ W : World, Kept w W → W.cell? ⟨g, 1, none⟩ = some (.slice none 0 0) ∧ W.cell? ⟨x, 1, none⟩ = some (.slice Ax xs.length cx)) := Lib.hid fun W h => ⟨(h.cell lgg).trans g1, (h.cell lgx).trans x1⟩
  go_enter Tryz.func84, Tryz.ntmps84
  go_wp2_with fail
  have hQ := KEEP.out w.drew (by go_grown)
  refine wp_region_lastL _ _ _ (by simp only [List.dropLast]; rfl) (by simp only [List.getLast?_cons_cons, List.getLast?_singleton]; rfl) (fun W => W.cell? ⟨g, 1, none⟩ = some (.slice none 0 0) ∧ W.cell? ⟨x, 1, none⟩ = some (.slice Ax xs.length cx)) (by kernel_rfl) (by kernel_rfl) (hQ) (fun hHeld => ?_)
  refine wpAnyH_take (i := 0) (oi := ?o0x0) (v := ?v0x0) ?hi0x0 (by kernel_rfl) (by kernel_rfl) (by kernel_rfl) ?hQ0x0 ?hy0x0 (by assumption) ?rest0x0
  case hi0x0 => (simp only [List.getElem?_toArray, List.getElem?_cons_zero]; rfl)
  case hQ0x0 => exact fun _ _ _ h => h
  case hy0x0 => (refine Or.inl ⟨by rfl, ?_⟩; intro W hSw; (try dsimp only at hSw); go_simp; (try with_reducible rfl))
  try simp only [Act.put, List.setIfInBounds_toArray, List.set_cons_zero, List.set_cons_succ]
  refine wpAnyH_take (i := 1) (oi := ?o1x1) (v := ?v1x1) ?hi1x1 (by kernel_rfl) (by kernel_rfl) (by kernel_rfl) ?hQ1x1 ?hy1x1 (by assumption) ?rest1x1
  case hi1x1 => (simp only [List.getElem?_toArray, List.getElem?_cons_succ, List.getElem?_cons_zero]; rfl)
  case hQ1x1 => exact fun _ _ _ h => h
  case hy1x1 => (refine Or.inl ⟨by rfl, ?_⟩; intro W hSw; (try dsimp only at hSw); go_simp; (try with_reducible rfl))
  try simp only [Act.put, List.setIfInBounds_toArray, List.set_cons_zero, List.set_cons_succ]
  refine wpAnyH_take (i := 2) (oi := ?o2x2) (v := ?v2x2) ?hi2x2 (by kernel_rfl) (by kernel_rfl) (by kernel_rfl) ?hQ2x2 ?hy2x2 (by assumption) ?rest2x2
  case hi2x2 => (simp only [List.getElem?_toArray, List.getElem?_cons_succ, List.getElem?_cons_zero]; rfl)
  case hQ2x2 => exact fun _ _ _ h => h
  case hy2x2 => (refine Or.inl ⟨by rfl, ?_⟩; intro W hSw; (try dsimp only at hSw); go_simp; (try with_reducible rfl))
  try simp only [Act.put, List.setIfInBounds_toArray, List.set_cons_zero, List.set_cons_succ]
  refine wpAnyH_take (i := 3) (oi := ?o3x3) (v := ?v3x3) ?hi3x3 (by kernel_rfl) (by kernel_rfl) (by kernel_rfl) ?hQ3x3 ?hy3x3 (by assumption) ?rest3x3
  case hi3x3 => (simp only [List.getElem?_toArray, List.getElem?_cons_succ, List.getElem?_cons_zero]; rfl)
  case hQ3x3 => exact fun _ _ _ h => h
  case hy3x3 => (refine Or.inl ⟨by rfl, ?_⟩; intro W hSw; (try dsimp only at hSw); go_simp; (try with_reducible rfl))
  try simp only [Act.put, List.setIfInBounds_toArray, List.set_cons_zero, List.set_cons_succ]
  refine wpAnyH_take (i := 4) (oi := ?o4x4) (v := ?v4x4) ?hi4x4 (by kernel_rfl) (by kernel_rfl) (by kernel_rfl) ?hQ4x4 ?hy4x4 (by assumption) ?rest4x4
  case hi4x4 => (simp only [List.getElem?_toArray, List.getElem?_cons_succ, List.getElem?_cons_zero]; rfl)
  case hQ4x4 => exact fun _ _ _ h => h
  case hy4x4 => (refine Or.inl ⟨by rfl, ?_⟩; intro W hSw; (try dsimp only at hSw); go_simp; (try with_reducible rfl))
  try simp only [Act.put, List.setIfInBounds_toArray, List.set_cons_zero, List.set_cons_succ]
  refine wpAnyH_take (i := 5) (oi := ?o5x5) (v := ?v5x5) ?hi5x5 (by kernel_rfl) (by kernel_rfl) (by kernel_rfl) ?hQ5x5 ?hy5x5 (by assumption) ?rest5x5
  case hi5x5 => (simp only [List.getElem?_toArray, List.getElem?_cons_succ, List.getElem?_cons_zero]; rfl)
  case hQ5x5 => exact fun _ _ _ h => h
  case hy5x5 => (refine Or.inl ⟨by rfl, ?_⟩; intro W hSw; (try dsimp only at hSw); go_simp; (try with_reducible rfl))
  try simp only [Act.put, List.setIfInBounds_toArray, List.set_cons_zero, List.set_cons_succ]
  refine wpAnyH_take (i := 6) (oi := ?o6x6) (v := ?v6x6) ?hi6x6 (by kernel_rfl) (by kernel_rfl) (by kernel_rfl) ?hQ6x6 ?hy6x6 (by assumption) ?rest6x6
  case hi6x6 => (simp only [List.getElem?_toArray, List.getElem?_cons_succ, List.getElem?_cons_zero]; rfl)
  case hQ6x6 => exact fun _ _ _ h => h
  case hy6x6 => (refine Or.inl ⟨by rfl, ?_⟩; intro W hSw; (try dsimp only at hSw); go_simp; (try with_reducible rfl))
  try simp only [Act.put, List.setIfInBounds_toArray, List.set_cons_zero, List.set_cons_succ]
  refine wpAnyH_take (i := 7) (oi := ?o7x7) (v := ?v7x7) ?hi7x7 (by kernel_rfl) (by kernel_rfl) (by kernel_rfl) ?hQ7x7 ?hy7x7 (by assumption) ?rest7x7
  case hi7x7 => (simp only [List.getElem?_toArray, List.getElem?_cons_succ, List.getElem?_cons_zero]; rfl)
  case hQ7x7 => exact fun _ _ _ h => h
  case hy7x7 => (refine Or.inl ⟨by rfl, ?_⟩; intro W hSw; (try dsimp only at hSw); go_simp; (try with_reducible rfl))
  try simp only [Act.put, List.setIfInBounds_toArray, List.set_cons_zero, List.set_cons_succ]
  refine wpAnyH_take (i := 8) (oi := ?o8x8) (v := ?v8x8) ?hi8x8 (by kernel_rfl) (by kernel_rfl) (by kernel_rfl) ?hQ8x8 ?hy8x8 (by assumption) ?rest8x8
  case hi8x8 => (simp only [List.getElem?_toArray, List.getElem?_cons_succ, List.getElem?_cons_zero]; rfl)
  case hQ8x8 => exact fun _ _ _ h => h
  case hy8x8 => (refine Or.inl ⟨by rfl, ?_⟩; intro W hSw; (try dsimp only at hSw); go_simp; (try with_reducible rfl))
  try simp only [Act.put, List.setIfInBounds_toArray, List.set_cons_zero, List.set_cons_succ]
  refine wpAnyH_ready (rs := [9]) (by kernel_rfl) (by simp) ?_
  refine (AllReadyH.cons rfl (fun K hK => ?_) AllReadyH.nil)
  go_simp
  (with_reducible refine Calls.mono (natOne_any _) ?_)
  rintro e wo ⟨Ao, co, rfl, hso, hko⟩
  have hLo : Kept w wo := ⟨hko.os, hko.tape, hko.output, hko.size, hko.block⟩
  have HSO := Lib.hid hso
  clear hso hko
  refine hK.out _ _ ?_ (fun hHeld => ?_)
  · (exact KEEP.out _ hLo)
  clear hK K
  try simp only [Act.put, List.setIfInBounds_toArray, List.set_cons_zero, List.set_cons_succ]
  refine wpAnyH_ready (rs := [10]) (by kernel_rfl) (by simp) ?_
  refine (AllReadyH.cons rfl (fun K hK => ?_) AllReadyH.nil)
  go_simp
  (with_reducible refine Calls.mono (HDX.out _ Ao co hLo HSO.out) ?_)
  rintro e w4 ⟨A4, c4, ws4, rfl, hs4, hf4, hl4, hk4⟩
  have hL4 : Kept w w4 := hLo.trans hk4
  refine hK.out _ _ ?_ (fun hHeld => ?_)
  · (exact KEEP.out _ hL4)
  clear hK K
  try simp only [Act.put, List.setIfInBounds_toArray, List.set_cons_zero, List.set_cons_succ]
  refine wpAnyH_take (i := 11) (oi := ?o11x9) (v := ?v11x9) ?hi11x9 (by kernel_rfl) (by kernel_rfl) (by kernel_rfl) ?hQ11x9 ?hy11x9 (by assumption) ?rest11x9
  case hi11x9 => (simp only [List.getElem?_toArray, List.getElem?_cons_succ, List.getElem?_cons_zero]; rfl)
  case hQ11x9 => exact fun _ _ _ h => h
  case hy11x9 => (refine Or.inl ⟨by rfl, ?_⟩; intro W hSw; (try dsimp only at hSw); go_simp; (try with_reducible rfl))
  try simp only [Act.put, List.setIfInBounds_toArray, List.set_cons_zero, List.set_cons_succ]
  refine wpAnyH_take (i := 12) (oi := ?o12x10) (v := ?v12x10) ?hi12x10 (by kernel_rfl) (by kernel_rfl) (by kernel_rfl) ?hQ12x10 ?hy12x10 (by assumption) ?rest12x10
  case hi12x10 => (simp only [List.getElem?_toArray, List.getElem?_cons_succ, List.getElem?_cons_zero]; rfl)
  case hQ12x10 => exact fun _ _ _ h => h
  case hy12x10 => (refine Or.inl ⟨by rfl, ?_⟩; intro W hSw; (try dsimp only at hSw); go_simp; (try with_reducible rfl))
  try simp only [Act.put, List.setIfInBounds_toArray, List.set_cons_zero, List.set_cons_succ]
  refine wpAnyH_done (by kernel_rfl) ?_ _
  have hff : Fr w.heap.size A4 := fun a ha => ⟨Nat.le_trans hLo.size (hf4 a ha).1, (hf4 a ha).2⟩
  obtain ⟨q1, q2, q3', q4, q5⟩ := fin_store HG.out hL4 hs4 hff hl4 HZ.out
  have FIN := Lib.hid q5
  clear q5 hs4 hf4 hl4 hk4 hff
  simp only [lastQ]
  go_wp2_with fail
  go_ret
  exact FIN.out
set_option maxRecDepth 100000 in
set_option maxHeartbeats 4000000 in
theorem bigNot_pos (g x : Nat) (X : Int) (hX : X.natAbs < Num.Cap) (h0 : ¬ X < 0) (w : World) (hg : BI0 w g) (hx : BI w x X) :
    Calls Tryz.prog 84 #[.pointer (some ⟨g, 0, none⟩), .pointer (some ⟨x, 0, none⟩)] w (RetPF w g (-X - 1)) := by
  obtain ⟨Ax, cx, xs, hbx, hsx, hlx, _⟩ := hx
  rw [decide_eq_false h0] at hbx
  have g1 : w.cell? ⟨g, 1, none⟩ = some (.slice none 0 0) := Blk.cell hg 1
  have x0 : w.cell? ⟨x, 0, none⟩ = some (.bool false) := hbx.cell 0
  have x1 : w.cell? ⟨x, 1, none⟩ = some (.slice Ax xs.length cx) := hbx.cell 1
  have lgx := Blk.lt hbx
  have lgg := Blk.lt hg
  have lx := hlx.len hX
  have hV : (-X - 1).natAbs = X.natAbs + 1 := by omega
  have HDX : Hid (∀ (W : World) (A : Option Addr) (c : Nat), Kept w W → Sl W A c (w64 [1]) → Calls Tryz.prog 110 #[.slice none 0 0, .slice Ax xs.length cx, .slice A 1 c] W (RetNat W (-X - 1).natAbs)) := Lib.hid fun W A c hk hs => by
    rw [hV]
    exact natInc_any Ax A cx c xs X.natAbs hlx (by omega) W (hsx.below hk) hs
  have HZ : Hid (decide (-X - 1 < 0) = true) := Lib.hid (decide_eq_true (by omega))
  have HG := Lib.hid hg
  clear hV hsx hlx hbx hg lx hX h0
  generalize -X - 1 = Z at *
  have KEEP : Hid (∀ W : World, Kept w W → W.cell? ⟨g, 1, none⟩ = some (.slice none 0 0) ∧ W.cell? ⟨x, 1, none⟩ = some (.slice Ax xs.length cx)) := Lib.hid fun W h => ⟨(h.cell lgg).trans g1, (h.cell lgx).trans x1⟩
  go_enter Tryz.func84, Tryz.ntmps84
  go_wp2_with fail
  have hQ := KEEP.out w.drew (by go_grown)
  refine wp_region_lastL _ _ _ (by simp only [List.dropLast]; rfl) (by simp only [List.getLast?_cons_cons, List.getLast?_singleton]; rfl) (fun W => W.cell? ⟨g, 1, none⟩ = some (.slice none 0 0) ∧ W.cell? ⟨x, 1, none⟩ = some (.slice Ax xs.length cx)) (by kernel_rfl) (by kernel_rfl) (hQ) (fun hHeld => ?_)
  refine wpAnyH_take (i := 0) (oi := ?o0x11) (v := ?v0x11) ?hi0x11 (by kernel_rfl) (by kernel_rfl) (by kernel_rfl) ?hQ0x11 ?hy0x11 (by assumption) ?rest0x11
  case hi0x11 => (simp only [List.getElem?_toArray, List.getElem?_cons_zero]; rfl)
  case hQ0x11 => exact fun _ _ _ h => h
  case hy0x11 => (refine Or.inl ⟨by rfl, ?_⟩; intro W hSw; (try dsimp only at hSw); go_simp; (try with_reducible rfl))
  try simp only [Act.put, List.setIfInBounds_toArray, List.set_cons_zero, List.set_cons_succ]
  refine wpAnyH_take (i := 1) (oi := ?o1x12) (v := ?v1x12) ?hi1x12 (by kernel_rfl) (by kernel_rfl) (by kernel_rfl) ?hQ1x12 ?hy1x12 (by assumption) ?rest1x12
  case hi1x12 => (simp only [List.getElem?_toArray, List.getElem?_cons_succ, List.getElem?_cons_zero]; rfl)
  case hQ1x12 => exact fun _ _ _ h => h
  case hy1x12 => (refine Or.inl ⟨by rfl, ?_⟩; intro W hSw; (try dsimp only at hSw); go_simp; (try with_reducible rfl))
  try simp only [Act.put, List.setIfInBounds_toArray, List.set_cons_zero, List.set_cons_succ]
  refine wpAnyH_take (i := 2) (oi := ?o2x13) (v := ?v2x13) ?hi2x13 (by kernel_rfl) (by kernel_rfl) (by kernel_rfl) ?hQ2x13 ?hy2x13 (by assumption) ?rest2x13
  case hi2x13 => (simp only [List.getElem?_toArray, List.getElem?_cons_succ, List.getElem?_cons_zero]; rfl)
  case hQ2x13 => exact fun _ _ _ h => h
  case hy2x13 => (refine Or.inl ⟨by rfl, ?_⟩; intro W hSw; (try dsimp only at hSw); go_simp; (try with_reducible rfl))
  try simp only [Act.put, List.setIfInBounds_toArray, List.set_cons_zero, List.set_cons_succ]
  refine wpAnyH_take (i := 3) (oi := ?o3x14) (v := ?v3x14) ?hi3x14 (by kernel_rfl) (by kernel_rfl) (by kernel_rfl) ?hQ3x14 ?hy3x14 (by assumption) ?rest3x14
  case hi3x14 => (simp only [List.getElem?_toArray, List.getElem?_cons_succ, List.getElem?_cons_zero]; rfl)
  case hQ3x14 => exact fun _ _ _ h => h
  case hy3x14 => (refine Or.inl ⟨by rfl, ?_⟩; intro W hSw; (try dsimp only at hSw); go_simp; (try with_reducible rfl))
  try simp only [Act.put, List.setIfInBounds_toArray, List.set_cons_zero, List.set_cons_succ]
  refine wpAnyH_take (i := 4) (oi := ?o4x15) (v := ?v4x15) ?hi4x15 (by kernel_rfl) (by kernel_rfl) (by kernel_rfl) ?hQ4x15 ?hy4x15 (by assumption) ?rest4x15
  case hi4x15 => (simp only [List.getElem?_toArray, List.getElem?_cons_succ, List.getElem?_cons_zero]; rfl)
  case hQ4x15 => exact fun _ _ _ h => h
  case hy4x15 => (refine Or.inl ⟨by rfl, ?_⟩; intro W hSw; (try dsimp only at hSw); go_simp; (try with_reducible rfl))
  try simp only [Act.put, List.setIfInBounds_toArray, List.set_cons_zero, List.set_cons_succ]
  refine wpAnyH_take (i := 5) (oi := ?o5x16) (v := ?v5x16) ?hi5x16 (by kernel_rfl) (by kernel_rfl) (by kernel_rfl) ?hQ5x16 ?hy5x16 (by assumption) ?rest5x16
  case hi5x16 => (simp only [List.getElem?_toArray, List.getElem?_cons_succ, List.getElem?_cons_zero]; rfl)
  case hQ5x16 => exact fun _ _ _ h => h
  case hy5x16 => (refine Or.inl ⟨by rfl, ?_⟩; intro W hSw; (try dsimp only at hSw); go_simp; (try with_reducible rfl))
  try simp only [Act.put, List.setIfInBounds_toArray, List.set_cons_zero, List.set_cons_succ]
  refine wpAnyH_take (i := 6) (oi := ?o6x17) (v := ?v6x17) ?hi6x17 (by kernel_rfl) (by kernel_rfl) (by kernel_rfl) ?hQ6x17 ?hy6x17 (by assumption) ?rest6x17
  case hi6x17 => (simp only [List.getElem?_toArray, List.getElem?_cons_succ, List.getElem?_cons_zero]; rfl)
  case hQ6x17 => exact fun _ _ _ h => h
  case hy6x17 => (refine Or.inl ⟨by rfl, ?_⟩; intro W hSw; (try dsimp only at hSw); go_simp; (try with_reducible rfl))
  try simp only [Act.put, List.setIfInBounds_toArray, List.set_cons_zero, List.set_cons_succ]
  refine wpAnyH_take (i := 7) (oi := ?o7x18) (v := ?v7x18) ?hi7x18 (by kernel_rfl) (by kernel_rfl) (by kernel_rfl) ?hQ7x18 ?hy7x18 (by assumption) ?rest7x18
  case hi7x18 => (simp only [List.getElem?_toArray, List.getElem?_cons_succ, List.getElem?_cons_zero]; rfl)
  case hQ7x18 => exact fun _ _ _ h => h
  case hy7x18 => (refine Or.inl ⟨by rfl, ?_⟩; intro W hSw; (try dsimp only at hSw); go_simp; (try with_reducible rfl))
  try simp only [Act.put, List.setIfInBounds_toArray, List.set_cons_zero, List.set_cons_succ]
  refine wpAnyH_take (i := 8) (oi := ?o8x19) (v := ?v8x19) ?hi8x19 (by kernel_rfl) (by kernel_rfl) (by kernel_rfl) ?hQ8x19 ?hy8x19 (by assumption) ?rest8x19
  case hi8x19 => (simp only [List.getElem?_toArray, List.getElem?_cons_succ, List.getElem?_cons_zero]; rfl)
  case hQ8x19 => exact fun _ _ _ h => h
  case hy8x19 => (refine Or.inl ⟨by rfl, ?_⟩; intro W hSw; (try dsimp only at hSw); go_simp; (try with_reducible rfl))
  try simp only [Act.put, List.setIfInBounds_toArray, List.set_cons_zero, List.set_cons_succ]
  refine wpAnyH_ready (rs := [9]) (by kernel_rfl) (by simp) ?_
  refine (AllReadyH.cons rfl (fun K hK => ?_) AllReadyH.nil)
  go_simp
  (with_reducible refine Calls.mono (natOne_any _) ?_)
  rintro e wo ⟨Ao, co, rfl, hso, hko⟩
  have hLo : Kept w wo := ⟨hko.os, hko.tape, hko.output, hko.size, hko.block⟩
  have HSO := Lib.hid hso
  clear hso hko
  refine hK.out _ _ ?_ (fun hHeld => ?_)
  · (exact KEEP.out _ hLo)
  clear hK K
  try simp only [Act.put, List.setIfInBounds_toArray, List.set_cons_zero, List.set_cons_succ]
  refine wpAnyH_ready (rs := [10]) (by kernel_rfl) (by simp) ?_
  refine (AllReadyH.cons rfl (fun K hK => ?_) AllReadyH.nil)
  go_simp
  (with_reducible refine Calls.mono (HDX.out _ Ao co hLo HSO.out) ?_)
  rintro e w4 ⟨A4, c4, ws4, rfl, hs4, hf4, hl4, hk4⟩
  have hL4 : Kept w w4 := hLo.trans hk4
  refine hK.out _ _ ?_ (fun hHeld => ?_)
  · (exact KEEP.out _ hL4)
  clear hK K
  try simp only [Act.put, List.setIfInBounds_toArray, List.set_cons_zero, List.set_cons_succ]
  refine wpAnyH_take (i := 11) (oi := ?o11x20) (v := ?v11x20) ?hi11x20 (by kernel_rfl) (by kernel_rfl) (by kernel_rfl) ?hQ11x20 ?hy11x20 (by assumption) ?rest11x20
  case hi11x20 => (simp only [List.getElem?_toArray, List.getElem?_cons_succ, List.getElem?_cons_zero]; rfl)
  case hQ11x20 => exact fun _ _ _ h => h
  case hy11x20 => (refine Or.inl ⟨by rfl, ?_⟩; intro W hSw; (try dsimp only at hSw); go_simp; (try with_reducible rfl))
  try simp only [Act.put, List.setIfInBounds_toArray, List.set_cons_zero, List.set_cons_succ]
  refine wpAnyH_take (i := 12) (oi := ?o12x21) (v := ?v12x21) ?hi12x21 (by kernel_rfl) (by kernel_rfl) (by kernel_rfl) ?hQ12x21 ?hy12x21 (by assumption) ?rest12x21
  case hi12x21 => (simp only [List.getElem?_toArray, List.getElem?_cons_succ, List.getElem?_cons_zero]; rfl)
  case hQ12x21 => exact fun _ _ _ h => h
  case hy12x21 => (refine Or.inl ⟨by rfl, ?_⟩; intro W hSw; (try dsimp only at hSw); go_simp; (try with_reducible rfl))
  try simp only [Act.put, List.setIfInBounds_toArray, List.set_cons_zero, List.set_cons_succ]
  refine wpAnyH_done (by kernel_rfl) ?_ _
  have hff : Fr w.heap.size A4 := fun a ha => ⟨Nat.le_trans hLo.size (hf4 a ha).1, (hf4 a ha).2⟩
  obtain ⟨q1, q2, q3', q4, q5⟩ := fin_store HG.out hL4 hs4 hff hl4 HZ.out
  have FIN := Lib.hid q5
  clear q5 hs4 hf4 hl4 hk4 hff
  simp only [lastQ]
  go_wp2_with fail
  go_ret
  exact FIN.out
theorem bigNot_any (g x : Nat) (X : Int) (hX : X.natAbs < Num.Cap) (w : World) (hg : BI0 w g) (hx : BI w x X) :
    Calls Tryz.prog 84 #[.pointer (some ⟨g, 0, none⟩), .pointer (some ⟨x, 0, none⟩)] w (RetPF w g (-X - 1)) := by
  by_cases h0 : X < 0
  · exact bigNot_neg g x X hX h0 w hg hx
  · exact bigNot_pos g x X hX h0 w hg hx
set_option maxRecDepth 100000 in
set_option maxHeartbeats 2000000 in
theorem iNot_any (x0 : Int) (p0 : Option Addr) (X : Int) (hX : X.natAbs + 1 < Num.Cap) (w : World) (hv : StI w (.agg #[.int .i64 x0, .pointer p0]) X) :
    Calls Tryz.prog 52 #[.agg #[.int .i64 x0, .pointer p0]] w (RetStI w (-X - 1)) := by
  have hk0 : Kept w ((w.alloc (.cells #[.int .i64 x0, .pointer p0] 75)).alloc (.cells #[.int .i64 0, .pointer none] 75)) := by go_grown
  have b3 : Blk ((w.alloc (.cells #[.int .i64 x0, .pointer p0] 75)).alloc (.cells #[.int .i64 0, .pointer none] 75)) (w.heap.size + 1) 75 #[.int .i64 0, .pointer none] := by
    have := Blk.new (w.alloc (.cells #[.int .i64 x0, .pointer p0] 75)) 75 #[.int .i64 0, .pointer none]
    rwa [World.size_alloc] at this
  have hsz : w.heap.size + 1 + 1 ≤ ((w.alloc (.cells #[.int .i64 x0, .pointer p0] 75)).alloc (.cells #[.int .i64 0, .pointer none] 75)).heap.size := by simp only [World.size_alloc]; omega
  rcases hv with ⟨e, hs⟩ | ⟨gx, e, hb, hs⟩
  · injection e with e; injection e with e; injection e with e1 e2; injection e2 with e2 _; injection e1 with _ e1; injection e2 with e2; subst e1 e2
    obtain ⟨r1, r2⟩ := of_decide_eq_true hs
    have hbit := i64_xor_neg1 x0 (by omega) (by omega)
    have HSM : Hid (Sm (-x0 - 1) = true) := Lib.hid (decide_eq_true (by omega))
    have HB3 := Lib.hid b3
    have HK0 := Lib.hid hk0
    clear hs b3 hk0 hX
    go_enter Tryz.func52, Tryz.ntmps52
    go_wp2_with fail
    generalize ((w.alloc (.cells #[.int .i64 x0, .pointer none] 75)).alloc (.cells #[.int .i64 0, .pointer none] 75)) = W1 at *
    refine (get_any x0 none W1).mono ?_
    rintro e w1 ⟨rfl, hk1⟩
    have HB4 := Lib.hid (HB3.out.below hk1)
    have HK1 : Hid (Kept w w1) := Lib.hid (HK0.out.trans hk1)
    have hz1 := hk1.size
    clear hk1
    go_wp2_with fail
    refine (makeSmall_any (-x0 - 1) w1).mono ?_
    rintro e w2 ⟨rfl, hk2⟩
    have H := Lib.hid (HB4.out.below hk2)
    have HK2 : Hid (Kept w w2) := Lib.hid (HK1.out.trans hk2)
    clear hk2
    go_wp2_with (refine wpList_store_row rfl 75 (.tmp 2) (.tmp 18) rfl (w.heap.size + 1) _ rfl rfl 75 _ H.out info_stI rfl (by simp [Value.oneCell']) ?_)
    refine bodyPost_blk (cs := #[.int .i64 (-x0 - 1), .pointer none]) rfl rfl (setRow_heap _ _ _ _ _ _ H.out) Tryz.underlying75 rfl (by exact info_stI) rfl ?_
    exact ⟨_, rfl, .inl ⟨rfl, HSM.out⟩, below_setRow HK2.out (by omega) _⟩
  · injection e with e; injection e with e; injection e with e1 e2; injection e2 with e2 _; injection e1 with _ e1; injection e2 with e2; subst e1 e2
    have HB := Lib.hid hb
    have HB3 := Lib.hid b3
    have HK0 := Lib.hid hk0
    have HX := Lib.hid hX
    clear hs b3 hk0 hX hb
    go_enter Tryz.func52, Tryz.ntmps52
    go_wp2_with fail
    generalize ((w.alloc (.cells #[.int .i64 0, .pointer (some ⟨gx, 0, none⟩)] 75)).alloc (.cells #[.int .i64 0, .pointer none] 75)) = W1 at *
    refine (get_any 0 (some ⟨gx, 0, none⟩) W1).mono ?_
    rintro e w1 ⟨rfl, hk1⟩
    have hz1 := hk1.size
    have h4 : BI0 (w1.alloc (.cells #[.bool false, .slice none 0 0] 114)) w1.heap.size := Blk.new w1 _ _
    have hk2 : Kept w1 (w1.alloc (.cells #[.bool false, .slice none 0 0] 114)) := (Below.refl _ _).alloc (Nat.le_refl _) _
    have HN := Lib.hid (bigNot_any w1.heap.size gx X (by have := HX.out; omega) _ h4 (HB.out.below ((HK0.out.trans hk1).trans hk2)))
    have HB4 := Lib.hid (HB3.out.below hk1)
    have HK1 : Hid (Kept w w1) := Lib.hid (HK0.out.trans hk1)
    have HK2 := Lib.hid hk2
    clear hk1 hk2 h4
    go_wp2_with fail
    generalize (w1.alloc (.cells #[.bool false, .slice none 0 0] 114)) = W2 at *
    refine (HN.out).mono ?_
    rintro e w5 ⟨rfl, hb5, ho5⟩
    have hK5 : Kept w1 w5 := Below.grown HK2.out ho5 HK2.out.size (fun k hk => by injection hk with hk; omega)
    have B5 := Lib.hid (HB4.out.below hK5)
    have HMB := Lib.hid (MakeBigInt_any _ _ (by have := HX.out; omega : (-X - 1).natAbs < Num.Cap) w5 hb5.toBI)
    have HK5 := Lib.hid hK5
    have hz5 := hK5.size
    clear hb5 ho5 hK5
    go_wp2_with fail
    refine (HMB.out).mono ?_
    rintro e w6 ⟨v6, rfl, hv6, hk6⟩
    have H := Lib.hid (B5.out.below hk6)
    have hz6 := hk6.size
    have HV6 := Lib.hid (hv6.mono (B' := w.heap.size + 1 + 1) (by omega))
    obtain ⟨x6, p6, rfl⟩ := hv6.two
    have HK6 : Hid (Kept w w6) := Lib.hid ((HK1.out.trans HK5.out).trans hk6)
    clear hv6 hk6
    go_wp2_with (refine wpList_store_row rfl 75 (.tmp 2) (.tmp 15) rfl (w.heap.size + 1) _ rfl rfl 75 _ H.out info_stI rfl (by simp [Value.oneCell']) ?_)
    refine bodyPost_blk (cs := #[.int .i64 x6, .pointer p6]) rfl rfl (setRow_heap _ _ _ _ _ _ H.out) Tryz.underlying75 rfl (by exact info_stI) rfl ?_
    exact ⟨_, rfl, (HV6.out.setRow (by omega)).mono (by omega), below_setRow HK6.out (by omega) _⟩
end Go.Proofs.YtamocmelhnmkeaaGreat
