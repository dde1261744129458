import Derived.Test.YtikjdibngkcpkaaW8
import Derived.Test.YtikjdibngkcpkaaW9
import Derived.Test.YtikjdibngkcpkaaNv
import Derived.Test.YtikjdibngkcpkaaLa
namespace Go.Proofs.Ytikjdibngkcpkaa
open Go.ChangeShapes Go.WideShapes Go.ChangeAt Go.RowKit
set_option linter.unusedVariables false
/-- the store of a number and of its sign into a new integer -/
theorem fin_store {w w1 : World} {g : Nat} {A1 : Option Addr} {k1 : Nat} {ws : List Nat} {z : Int} {b : Bool} (hg : BI0 w g) (hk : Kept w w1) (hs : Sl w1 A1 k1 (w64 ws)) (hf : Fr w.heap.size A1) (hl : LW ws z.natAbs) (hb : decide (z < 0) = b) :
    w1.cell? ⟨g, 1, none⟩ = some (.slice none 0 0) ∧ w1.frozen? ⟨g, 1, none⟩ = false ∧
    (w1.setCell ⟨g, 1, none⟩ (.slice A1 ws.length k1)).cell? ⟨g, 0, none⟩ = some (.bool false) ∧ (w1.setCell ⟨g, 1, none⟩ (.slice A1 ws.length k1)).frozen? ⟨g, 0, none⟩ = false ∧
    RetPF w g z (.returned (.pointer (some ⟨g, 0, none⟩))) ((w1.setCell ⟨g, 1, none⟩ (.slice A1 ws.length k1)).setCell ⟨g, 0, none⟩ (.bool b)) := by
  have lg := Blk.lt hg
  have hg1 : BI0 w1 g := (hk.block g lg).trans hg
  have hg2 := Blk.set hg1 1 (.slice A1 ws.length k1)
  have hne1 : ∀ b off, A1 = some ⟨b, off, none⟩ → b ≠ g ∧ w.heap.size ≤ b := fun b off h => by have h1 := (hf _ h).1; have h2 : w.heap.size ≤ b := h1; exact ⟨by omega, h2⟩
  have hs2 := (hs.setFar (i := 1) (fun b off h => (hne1 b off h).1) (.slice A1 ws.length k1)).setFar (i := 0) (fun b off h => (hne1 b off h).1) (.bool b)
  have ho2 := only_set (only_set (only_of_kept hk (some g)) 1 (.slice A1 ws.length k1)) 0 (.bool b)
  have hg3 : Blk ((w1.setCell ⟨g, 1, none⟩ (.slice A1 ws.length k1)).setCell ⟨g, 0, none⟩ (.bool b)) g 100 #[.bool (decide (z < 0)), .slice A1 ws.length k1] := by rw [hb]; simpa using Blk.set hg2 0 (.bool b)
  exact ⟨Blk.cell hg1 1, Blk.frozen hg1 1, Blk.cell hg2 0, Blk.frozen hg2 0, RetPF.of hg3 hs2 hl hne1 ho2⟩
set_option maxRecDepth 100000 in
set_option maxHeartbeats 1000000 in
theorem bigOr_pp (g x y : Nat) (X Y : Int) (hX : X.natAbs < Num.Cap) (hY : Y.natAbs < Num.Cap) (h0 : ¬ X < 0) (h1 : ¬ Y < 0) (w : World) (hg : BI0 w g) (hx : BI w x X) (hy : BI w y Y) :
    Calls Try.prog 78 #[.pointer (some ⟨g, 0, none⟩), .pointer (some ⟨x, 0, none⟩), .pointer (some ⟨y, 0, none⟩)] w (RetPF w g (orI X Y)) := by
  obtain ⟨Ax, cx, xs, hbx, hsx, hlx, _⟩ := hx
  obtain ⟨Ay, cy, ys, hby, hsy, hly, _⟩ := hy
  have hZ := orI_pp h0 h1
  rw [decide_eq_false h0] at hbx
  rw [decide_eq_false h1] at hby
  have g1 : w.cell? ⟨g, 1, none⟩ = some (.slice none 0 0) := Blk.cell hg 1
  have x0 : w.cell? ⟨x, 0, none⟩ = some (.bool false) := hbx.cell 0
  have x1 : w.cell? ⟨x, 1, none⟩ = some (.slice Ax xs.length cx) := hbx.cell 1
  have y0 : w.cell? ⟨y, 0, none⟩ = some (.bool false) := hby.cell 0
  have y1 : w.cell? ⟨y, 1, none⟩ = some (.slice Ay ys.length cy) := hby.cell 1
  have lx := hlx.len hX
  have ly := hly.len hY
  have HOR : Hid (∀ W : World, Kept w W → Calls Try.prog 104 #[.slice none 0 0, .slice Ax xs.length cx, .slice Ay ys.length cy] W (RetNat W (orI X Y).natAbs)) := Lib.hid fun W hk => by
    rw [hZ.2, ← hlx.2, ← hly.2]
    exact natOr_any Ax Ay cx cy xs ys (by omega) (by omega) hlx.1.1 hly.1.1 W (hsx.below hk) (hsy.below hk)
  have HZ := Lib.hid (decide_eq_false hZ.1)
  have HG := Lib.hid hg
  clear hsx hsy hlx hly hbx hby hg lx ly hZ
  generalize orI X Y = Z at *
  go_enter Try.func78, Try.ntmps78
  go_wp2_with fail
  go_quiet (fail)
  go_wp2_with fail
  go_region_with (go_at_call 104; refine Calls.mono (HOR.out _ ⟨rfl, rfl, rfl, Nat.le_refl _, fun _ _ => rfl⟩) ?_; rintro e w1 ⟨A1, k1, ws, rfl, hs1, hf1, hl1, hk1⟩; have hkw : Kept w w1 := ⟨hk1.os, hk1.tape, hk1.output, hk1.size, hk1.block⟩; obtain ⟨q1, q2, q3, q4, q5⟩ := fin_store HG.out hkw hs1 hf1 hl1 (by have := HZ.out; first | exact this | exact decide_eq_false (by omega)); have FIN := Lib.hid q5; clear q5 hkw hk1 hf1 hs1 hl1)
  all_goals
    go_wp2_with fail
    go_ret
    exact FIN.out
set_option maxRecDepth 100000 in
set_option maxHeartbeats 4000000 in
theorem bigOr_pm (g x y : Nat) (X Y : Int) (hX : X.natAbs < Num.Cap) (hY : Y.natAbs < Num.Cap) (h0 : ¬ X < 0) (h1 : Y < 0) (w : World) (hg : BI0 w g) (hx : BI w x X) (hy : BI w y Y) :
    Calls Try.prog 78 #[.pointer (some ⟨g, 0, none⟩), .pointer (some ⟨x, 0, none⟩), .pointer (some ⟨y, 0, none⟩)] w (RetPF w g (orI X Y)) := by
  obtain ⟨Ax, cx, xs, hbx, hsx, hlx, _⟩ := hx
  obtain ⟨Ay, cy, ys, hby, hsy, hly, _⟩ := hy
  have hZ := orI_pm h0 h1
  rw [decide_eq_false h0] at hbx
  rw [decide_eq_true h1] at hby
  have g1 : w.cell? ⟨g, 1, none⟩ = some (.slice none 0 0) := Blk.cell hg 1
  have x0 : w.cell? ⟨x, 0, none⟩ = some (.bool false) := hbx.cell 0
  have x1 : w.cell? ⟨x, 1, none⟩ = some (.slice Ax xs.length cx) := hbx.cell 1
  have y0 : w.cell? ⟨y, 0, none⟩ = some (.bool true) := hby.cell 0
  have y1 : w.cell? ⟨y, 1, none⟩ = some (.slice Ay ys.length cy) := hby.cell 1
  have lgu := Blk.lt hbx
  have lgv := Blk.lt hby
  have lgg := Blk.lt hg
  have hVc : Y.natAbs - 1 < Num.Cap := by omega
  have hAc : anot (Y.natAbs - 1) X.natAbs < Num.Cap := Nat.lt_of_le_of_lt (anot_le _ _) hVc
  have hV1 : Y.natAbs = (Y.natAbs - 1) + 1 := by omega
  have lu := hlx.len hX
  have lv := hly.len hY
  have HDV : Hid (∀ (W : World) (A : Option Addr) (c : Nat), Kept w W → Sl W A c (w64 [1]) → Calls Try.prog 99 #[.slice none 0 0, .slice Ay ys.length cy, .slice A 1 c] W (RetNat W (Y.natAbs - 1))) := Lib.hid fun W A c hk hs =>
    natDec_any Ay A cy c ys (Y.natAbs - 1) (by rw [← hV1]; exact hly) (by omega) W (hsy.below hk) hs
  have HZ : Hid (decide (orI X Y < 0) = true ∧ (orI X Y).natAbs = anot (Y.natAbs - 1) X.natAbs + 1) := Lib.hid ⟨decide_eq_true hZ.1, by omega⟩
  have HCV := Lib.hid hVc
  have HCA := Lib.hid hAc
  have HG := Lib.hid hg
  clear hZ hV1
  generalize orI X Y = Z at *
  generalize (Y.natAbs - 1) = V' at *
  generalize hN : anot V' X.natAbs = N at *
  have HAN : Hid (∀ (W : World) (A1 : Option Addr) (c1 : Nat) (ws1 : List Nat), Kept w W → LW ws1 V' → Sl W A1 c1 (w64 ws1) → Calls Try.prog 105 #[.slice none 0 0, .slice A1 ws1.length c1, .slice Ax xs.length cx] W (RetNat W N)) := Lib.hid fun W A1 c1 ws1 hk h1 s1 => by
    have l1 := h1.len HCV.out
    rw [← hN, ← h1.2, ← hlx.2]
    exact natAndNot_any A1 Ax c1 cx ws1 xs (by omega) (by omega) h1.1.1 hlx.1.1 W s1 (hsx.below hk)
  have HIN : Hid (∀ (W : World) (A1 A2 : Option Addr) (c1 c2 : Nat) (ws : List Nat), LW ws N → Sl W A1 c1 (w64 ws) → Sl W A2 c2 (w64 [1]) → Calls Try.prog 102 #[.slice none 0 0, .slice A1 ws.length c1, .slice A2 1 c2] W (RetNat W (N + 1))) := Lib.hid fun W A1 A2 c1 c2 ws h1 s1 s2 => by
    have l1 := h1.len HCA.out
    exact natInc_any A1 A2 c1 c2 ws N h1 (by omega) W s1 s2
  rw [← HZ.out.2] at HIN
  clear hN hsx hsy hlx hly hbx hby hg lu lv hVc hAc hX hY h0 h1 HCV HCA
  have KEEP : Hid (∀ W : World, Kept w W → W.cell? ⟨g, 1, none⟩ = some (.slice none 0 0) ∧ W.cell? ⟨x, 1, none⟩ = some (.slice Ax xs.length cx)) := Lib.hid fun W h => ⟨(h.cell lgg).trans g1, (h.cell lgu).trans x1⟩
  have KEEV : Hid (∀ W : World, Kept w W → W.cell? ⟨y, 1, none⟩ = some (.slice Ay ys.length cy)) := Lib.hid fun W h => (h.cell lgv).trans y1
  go_enter Try.func78, Try.ntmps78
  go_wp2_with fail
  go_quiet (fail)
  go_wp2_with fail
  have hk0 : Kept w (w.drewN nq) := below_drewN (Below.refl _ _) nq
  have hz0 := hk0.size
  generalize w.drewN nq = w0 at *
  go_region_held3 (fun W : World => W.cell? ⟨y, 1, none⟩ = some (.slice Ay ys.length cy))
    (exact KEEV.out _ (by go_grown))
    (first
      | (go_at_call 100
         (with_reducible refine Calls.mono (natOne_any _) ?_)
         rintro e wo ⟨Ao, co, rfl, hso, hko⟩
         have hKo : Kept w wo := Below.trans (by go_grown) (hko.mono (by go_size))
         have HSO := Lib.hid hso
         have hzo := hKo.size
         clear hso)
      | (go_at_call 99
         (with_reducible refine Calls.mono (HDV.out _ Ao co ?_ ?_) ?_)
         · go_grown
         · exact HSO.out.below (by go_grown)
         rintro e w1 ⟨A1, c1, ws1, rfl, hs1, _, hl1, hk1⟩
         have hK1 : Kept w w1 := Below.trans (by go_grown) (hk1.mono (by go_size))
         have hz1 := hK1.size
         have HS1 := Lib.hid hs1
         have HL1 := Lib.hid hl1
         clear hs1 hl1 hk1))
  clear hKo hko HSO hzo hk0 hz0 x0 x1 y0 y1 g1
  have hQ := KEEP.out w1.drew (hK1.trans (by go_grown))
  go_wp2_with fail
  refine wp_region_lastL _ _ _ (by simp only [List.dropLast]; rfl) (by simp only [List.getLast?_cons_cons, List.getLast?_singleton]; rfl) (fun W => W.cell? ⟨g, 1, none⟩ = some (.slice none 0 0) ∧ W.cell? ⟨x, 1, none⟩ = some (.slice Ax xs.length cx)) (by kernel_rfl) (by kernel_rfl) hQ (fun hHeld => ?_)
  refine wpAnyH_take (i := 0) (oi := ?o0) (v := ?v0) ?hi0 (by kernel_rfl) (by kernel_rfl) (by kernel_rfl) ?hQ0 ?hy0 (by assumption) ?rest0
  case hi0 => (simp only [List.getElem?_toArray, List.getElem?_cons_zero]; rfl)
  case hQ0 => exact fun _ _ _ h => h
  case hy0 => (refine Or.inl ⟨by rfl, ?_⟩; intro W hSw; (try dsimp only at hSw); go_simp; (try with_reducible rfl))
  try simp only [Act.put, List.setIfInBounds_toArray, List.set_cons_zero, List.set_cons_succ]
  refine wpAnyH_take (i := 1) (oi := ?o1) (v := ?v1) ?hi1 (by kernel_rfl) (by kernel_rfl) (by kernel_rfl) ?hQ1 ?hy1 (by assumption) ?rest1
  case hi1 => (simp only [List.getElem?_toArray, List.getElem?_cons_succ, List.getElem?_cons_zero]; rfl)
  case hQ1 => exact fun _ _ _ h => h
  case hy1 => (refine Or.inl ⟨by rfl, ?_⟩; intro W hSw; (try dsimp only at hSw); go_simp; (try with_reducible rfl))
  try simp only [Act.put, List.setIfInBounds_toArray, List.set_cons_zero, List.set_cons_succ]
  refine wpAnyH_take (i := 2) (oi := ?o2) (v := ?v2) ?hi2 (by kernel_rfl) (by kernel_rfl) (by kernel_rfl) ?hQ2 ?hy2 (by assumption) ?rest2
  case hi2 => (simp only [List.getElem?_toArray, List.getElem?_cons_succ, List.getElem?_cons_zero]; rfl)
  case hQ2 => exact fun _ _ _ h => h
  case hy2 => (refine Or.inl ⟨by rfl, ?_⟩; intro W hSw; (try dsimp only at hSw); go_simp; (try with_reducible rfl))
  try simp only [Act.put, List.setIfInBounds_toArray, List.set_cons_zero, List.set_cons_succ]
  refine wpAnyH_take (i := 3) (oi := ?o3) (v := ?v3) ?hi3 (by kernel_rfl) (by kernel_rfl) (by kernel_rfl) ?hQ3 ?hy3 (by assumption) ?rest3
  case hi3 => (simp only [List.getElem?_toArray, List.getElem?_cons_succ, List.getElem?_cons_zero]; rfl)
  case hQ3 => exact fun _ _ _ h => h
  case hy3 => (refine Or.inl ⟨by rfl, ?_⟩; intro W hSw; (try dsimp only at hSw); go_simp; (try with_reducible rfl))
  try simp only [Act.put, List.setIfInBounds_toArray, List.set_cons_zero, List.set_cons_succ]
  refine wpAnyH_take (i := 4) (oi := ?o4) (v := ?v4) ?hi4 (by kernel_rfl) (by kernel_rfl) (by kernel_rfl) ?hQ4 ?hy4 (by assumption) ?rest4
  case hi4 => (simp only [List.getElem?_toArray, List.getElem?_cons_succ, List.getElem?_cons_zero]; rfl)
  case hQ4 => exact fun _ _ _ h => h
  case hy4 => (refine Or.inl ⟨by rfl, ?_⟩; intro W hSw; (try dsimp only at hSw); go_simp; (try with_reducible rfl))
  try simp only [Act.put, List.setIfInBounds_toArray, List.set_cons_zero, List.set_cons_succ]
  refine wpAnyH_take (i := 5) (oi := ?o5) (v := ?v5) ?hi5 (by kernel_rfl) (by kernel_rfl) (by kernel_rfl) ?hQ5 ?hy5 (by assumption) ?rest5
  case hi5 => (simp only [List.getElem?_toArray, List.getElem?_cons_succ, List.getElem?_cons_zero]; rfl)
  case hQ5 => exact fun _ _ _ h => h
  case hy5 => (refine Or.inl ⟨by rfl, ?_⟩; intro W hSw; (try dsimp only at hSw); go_simp; (try with_reducible rfl))
  try simp only [Act.put, List.setIfInBounds_toArray, List.set_cons_zero, List.set_cons_succ]
  refine wpAnyH_take (i := 6) (oi := ?o6) (v := ?v6) ?hi6 (by kernel_rfl) (by kernel_rfl) (by kernel_rfl) ?hQ6 ?hy6 (by assumption) ?rest6
  case hi6 => (simp only [List.getElem?_toArray, List.getElem?_cons_succ, List.getElem?_cons_zero]; rfl)
  case hQ6 => exact fun _ _ _ h => h
  case hy6 => (refine Or.inl ⟨by rfl, ?_⟩; intro W hSw; (try dsimp only at hSw); go_simp; (try with_reducible rfl))
  try simp only [Act.put, List.setIfInBounds_toArray, List.set_cons_zero, List.set_cons_succ]
  refine wpAnyH_take (i := 7) (oi := ?o7) (v := ?v7) ?hi7 (by kernel_rfl) (by kernel_rfl) (by kernel_rfl) ?hQ7 ?hy7 (by assumption) ?rest7
  case hi7 => (simp only [List.getElem?_toArray, List.getElem?_cons_succ, List.getElem?_cons_zero]; rfl)
  case hQ7 => exact fun _ _ _ h => h
  case hy7 => (refine Or.inl ⟨by rfl, ?_⟩; intro W hSw; (try dsimp only at hSw); go_simp; (try with_reducible rfl))
  try simp only [Act.put, List.setIfInBounds_toArray, List.set_cons_zero, List.set_cons_succ]
  refine wpAnyH_take (i := 8) (oi := ?o8) (v := ?v8) ?hi8 (by kernel_rfl) (by kernel_rfl) (by kernel_rfl) ?hQ8 ?hy8 (by assumption) ?rest8
  case hi8 => (simp only [List.getElem?_toArray, List.getElem?_cons_succ, List.getElem?_cons_zero]; rfl)
  case hQ8 => exact fun _ _ _ h => h
  case hy8 => (refine Or.inl ⟨by rfl, ?_⟩; intro W hSw; (try dsimp only at hSw); go_simp; (try with_reducible rfl))
  try simp only [Act.put, List.setIfInBounds_toArray, List.set_cons_zero, List.set_cons_succ]
  refine wpAnyH_take (i := 9) (oi := ?o9) (v := ?v9) ?hi9 (by kernel_rfl) (by kernel_rfl) (by kernel_rfl) ?hQ9 ?hy9 (by assumption) ?rest9
  case hi9 => (simp only [List.getElem?_toArray, List.getElem?_cons_succ, List.getElem?_cons_zero]; rfl)
  case hQ9 => exact fun _ _ _ h => h
  case hy9 => (refine Or.inl ⟨by rfl, ?_⟩; intro W hSw; (try dsimp only at hSw); go_simp; (try with_reducible rfl))
  try simp only [Act.put, List.setIfInBounds_toArray, List.set_cons_zero, List.set_cons_succ]
  refine wpAnyH_take (i := 10) (oi := ?o10) (v := ?v10) ?hi10 (by kernel_rfl) (by kernel_rfl) (by kernel_rfl) ?hQ10 ?hy10 (by assumption) ?rest10
  case hi10 => (simp only [List.getElem?_toArray, List.getElem?_cons_succ, List.getElem?_cons_zero]; rfl)
  case hQ10 => exact fun _ _ _ h => h
  case hy10 => (refine Or.inl ⟨by rfl, ?_⟩; intro W hSw; (try dsimp only at hSw); go_simp; (try with_reducible rfl))
  try simp only [Act.put, List.setIfInBounds_toArray, List.set_cons_zero, List.set_cons_succ]
  refine wpAnyH_take (i := 11) (oi := ?o11) (v := ?v11) ?hi11 (by kernel_rfl) (by kernel_rfl) (by kernel_rfl) ?hQ11 ?hy11 (by assumption) ?rest11
  case hi11 => (simp only [List.getElem?_toArray, List.getElem?_cons_succ, List.getElem?_cons_zero]; rfl)
  case hQ11 => exact fun _ _ _ h => h
  case hy11 => (refine Or.inl ⟨by rfl, ?_⟩; intro W hSw; (try dsimp only at hSw); go_simp; (try with_reducible rfl))
  try simp only [Act.put, List.setIfInBounds_toArray, List.set_cons_zero, List.set_cons_succ]
  refine wpAnyH_take (i := 12) (oi := ?o12) (v := ?v12) ?hi12 (by kernel_rfl) (by kernel_rfl) (by kernel_rfl) ?hQ12 ?hy12 (by assumption) ?rest12
  case hi12 => (simp only [List.getElem?_toArray, List.getElem?_cons_succ, List.getElem?_cons_zero]; rfl)
  case hQ12 => exact fun _ _ _ h => h
  case hy12 => (refine Or.inl ⟨by rfl, ?_⟩; intro W hSw; (try dsimp only at hSw); go_simp; (try with_reducible rfl))
  try simp only [Act.put, List.setIfInBounds_toArray, List.set_cons_zero, List.set_cons_succ]
  refine wpAnyH_take (i := 13) (oi := ?o13) (v := ?v13) ?hi13 (by kernel_rfl) (by kernel_rfl) (by kernel_rfl) ?hQ13 ?hy13 (by assumption) ?rest13
  case hi13 => (simp only [List.getElem?_toArray, List.getElem?_cons_succ, List.getElem?_cons_zero]; rfl)
  case hQ13 => exact fun _ _ _ h => h
  case hy13 => (refine Or.inl ⟨by rfl, ?_⟩; intro W hSw; (try dsimp only at hSw); go_simp; (try with_reducible rfl))
  try simp only [Act.put, List.setIfInBounds_toArray, List.set_cons_zero, List.set_cons_succ]
  refine wpAnyH_ready (rs := [14]) (by kernel_rfl) (by simp) ?_
  refine (AllReadyH.cons rfl (fun K hK => ?_) AllReadyH.nil)
  · go_simp
    (with_reducible refine Calls.mono (HAN.out _ A1 c1 ws1 ?_ HL1.out ?_) ?_)
    · exact hK1.trans (by go_grown)
    · exact HS1.out.below (by go_grown)
    rintro e w3 ⟨A3, c3, ws3, rfl, hs3, _, hl3, hk3⟩
    have hL3 : Kept w1 w3 := Below.trans (by go_grown) (hk3.mono (by go_size))
    have hz3 := hL3.size
    have HS3 := Lib.hid hs3
    have HL3 := Lib.hid hl3
    clear hs3 hl3
    refine hK.out _ _ ?_ (fun hHeld => ?_)
    · (exact KEEP.out _ (hK1.trans (by go_grown)))
    clear hK K
    try simp only [Act.put, List.setIfInBounds_toArray, List.set_cons_zero, List.set_cons_succ]
    refine wpAnyH_ready (rs := [15]) (by kernel_rfl) (by simp) ?_
    refine (AllReadyH.cons rfl (fun K hK => ?_) AllReadyH.nil)
    · go_simp
      (with_reducible refine Calls.mono (natOne_any _) ?_)
      rintro e wo ⟨Ao, co, rfl, hso, hko⟩
      have hLo : Kept w1 wo := Below.trans (by go_grown) (hko.mono (by go_size))
      have HSO := Lib.hid hso
      have hzo := hLo.size
      clear hso
      refine hK.out _ _ ?_ (fun hHeld => ?_)
      · (exact KEEP.out _ (hK1.trans (by go_grown)))
      clear hK K
      try simp only [Act.put, List.setIfInBounds_toArray, List.set_cons_zero, List.set_cons_succ]
      refine wpAnyH_ready (rs := [16]) (by kernel_rfl) (by simp) ?_
      refine (AllReadyH.cons rfl (fun K hK => ?_) AllReadyH.nil)
      · go_simp
        (with_reducible refine Calls.mono (HIN.out _ A3 Ao c3 co ws3 HL3.out ?_ ?_) ?_)
        · exact HS3.out.below (by go_grown)
        · exact HSO.out.below (by go_grown)
        rintro e w4 ⟨A4, c4, ws4, rfl, hs4, hf4, hl4, hk4⟩
        have hL4 : Kept w1 w4 := Below.trans (by go_grown) (hk4.mono (by go_size))
        have hz4 : w1.heap.size ≤ w4.heap.size := hL4.size
        refine hK.out _ _ ?_ (fun hHeld => ?_)
        · (exact KEEP.out _ (hK1.trans (by go_grown)))
        clear hK K
        try simp only [Act.put, List.setIfInBounds_toArray, List.set_cons_zero, List.set_cons_succ]
        refine wpAnyH_take (i := 17) (oi := ?o17) (v := ?v17) ?hi17 (by kernel_rfl) (by kernel_rfl) (by kernel_rfl) ?hQ17 ?hy17 (by assumption) ?rest17
        case hi17 => (simp only [List.getElem?_toArray, List.getElem?_cons_succ, List.getElem?_cons_zero]; rfl)
        case hQ17 => exact fun _ _ _ h => h
        case hy17 => (refine Or.inl ⟨by rfl, ?_⟩; intro W hSw; (try dsimp only at hSw); go_simp; (try with_reducible rfl))
        try simp only [Act.put, List.setIfInBounds_toArray, List.set_cons_zero, List.set_cons_succ]
        refine wpAnyH_take (i := 18) (oi := ?o18) (v := ?v18) ?hi18 (by kernel_rfl) (by kernel_rfl) (by kernel_rfl) ?hQ18 ?hy18 (by assumption) ?rest18
        case hi18 => (simp only [List.getElem?_toArray, List.getElem?_cons_succ, List.getElem?_cons_zero]; rfl)
        case hQ18 => exact fun _ _ _ h => h
        case hy18 => (refine Or.inl ⟨by rfl, ?_⟩; intro W hSw; (try dsimp only at hSw); go_simp; (try with_reducible rfl))
        try simp only [Act.put, List.setIfInBounds_toArray, List.set_cons_zero, List.set_cons_succ]
        refine wpAnyH_done (by kernel_rfl) ?_ _
        have hff : Fr w.heap.size A4 := fun a ha => by
          have := hf4 a ha
          refine ⟨?_, this.2⟩
          have h1 := this.1
          exact Nat.le_trans (Nat.le_trans hz1 (by go_size)) h1
        obtain ⟨q1, q2, q3', q4, q5⟩ := fin_store HG.out (hK1.trans hL4) hs4 hff hl4 HZ.out.1
        have FIN := Lib.hid q5
        clear q5 hs4 hf4 hl4 hk4 hff
        simp only [lastQ]
        go_wp2_with fail
        go_ret
        exact FIN.out
set_option maxRecDepth 100000 in
set_option maxHeartbeats 4000000 in
theorem bigOr_mp (g x y : Nat) (X Y : Int) (hX : X.natAbs < Num.Cap) (hY : Y.natAbs < Num.Cap) (h0 : X < 0) (h1 : ¬ Y < 0) (w : World) (hg : BI0 w g) (hx : BI w x X) (hy : BI w y Y) :
    Calls Try.prog 78 #[.pointer (some ⟨g, 0, none⟩), .pointer (some ⟨x, 0, none⟩), .pointer (some ⟨y, 0, none⟩)] w (RetPF w g (orI X Y)) := by
  obtain ⟨Ax, cx, xs, hbx, hsx, hlx, _⟩ := hx
  obtain ⟨Ay, cy, ys, hby, hsy, hly, _⟩ := hy
  have hZ := orI_mp h0 h1
  rw [decide_eq_false h1] at hby
  rw [decide_eq_true h0] at hbx
  have g1 : w.cell? ⟨g, 1, none⟩ = some (.slice none 0 0) := Blk.cell hg 1
  have y0 : w.cell? ⟨y, 0, none⟩ = some (.bool false) := hby.cell 0
  have y1 : w.cell? ⟨y, 1, none⟩ = some (.slice Ay ys.length cy) := hby.cell 1
  have x0 : w.cell? ⟨x, 0, none⟩ = some (.bool true) := hbx.cell 0
  have x1 : w.cell? ⟨x, 1, none⟩ = some (.slice Ax xs.length cx) := hbx.cell 1
  have lgu := Blk.lt hby
  have lgv := Blk.lt hbx
  have lgg := Blk.lt hg
  have hVc : X.natAbs - 1 < Num.Cap := by omega
  have hAc : anot (X.natAbs - 1) Y.natAbs < Num.Cap := Nat.lt_of_le_of_lt (anot_le _ _) hVc
  have hV1 : X.natAbs = (X.natAbs - 1) + 1 := by omega
  have lu := hly.len hY
  have lv := hlx.len hX
  have HDV : Hid (∀ (W : World) (A : Option Addr) (c : Nat), Kept w W → Sl W A c (w64 [1]) → Calls Try.prog 99 #[.slice none 0 0, .slice Ax xs.length cx, .slice A 1 c] W (RetNat W (X.natAbs - 1))) := Lib.hid fun W A c hk hs =>
    natDec_any Ax A cx c xs (X.natAbs - 1) (by rw [← hV1]; exact hlx) (by omega) W (hsx.below hk) hs
  have HZ : Hid (decide (orI X Y < 0) = true ∧ (orI X Y).natAbs = anot (X.natAbs - 1) Y.natAbs + 1) := Lib.hid ⟨decide_eq_true hZ.1, by omega⟩
  have HCV := Lib.hid hVc
  have HCA := Lib.hid hAc
  have HG := Lib.hid hg
  clear hZ hV1
  generalize orI X Y = Z at *
  generalize (X.natAbs - 1) = V' at *
  generalize hN : anot V' Y.natAbs = N at *
  have HAN : Hid (∀ (W : World) (A1 : Option Addr) (c1 : Nat) (ws1 : List Nat), Kept w W → LW ws1 V' → Sl W A1 c1 (w64 ws1) → Calls Try.prog 105 #[.slice none 0 0, .slice A1 ws1.length c1, .slice Ay ys.length cy] W (RetNat W N)) := Lib.hid fun W A1 c1 ws1 hk h1 s1 => by
    have l1 := h1.len HCV.out
    rw [← hN, ← h1.2, ← hly.2]
    exact natAndNot_any A1 Ay c1 cy ws1 ys (by omega) (by omega) h1.1.1 hly.1.1 W s1 (hsy.below hk)
  have HIN : Hid (∀ (W : World) (A1 A2 : Option Addr) (c1 c2 : Nat) (ws : List Nat), LW ws N → Sl W A1 c1 (w64 ws) → Sl W A2 c2 (w64 [1]) → Calls Try.prog 102 #[.slice none 0 0, .slice A1 ws.length c1, .slice A2 1 c2] W (RetNat W (N + 1))) := Lib.hid fun W A1 A2 c1 c2 ws h1 s1 s2 => by
    have l1 := h1.len HCA.out
    exact natInc_any A1 A2 c1 c2 ws N h1 (by omega) W s1 s2
  rw [← HZ.out.2] at HIN
  clear hN hsx hsy hlx hly hbx hby hg lu lv hVc hAc hX hY h0 h1 HCV HCA
  have KEEP : Hid (∀ W : World, Kept w W → W.cell? ⟨g, 1, none⟩ = some (.slice none 0 0) ∧ W.cell? ⟨y, 1, none⟩ = some (.slice Ay ys.length cy)) := Lib.hid fun W h => ⟨(h.cell lgg).trans g1, (h.cell lgu).trans y1⟩
  have KEEV : Hid (∀ W : World, Kept w W → W.cell? ⟨x, 1, none⟩ = some (.slice Ax xs.length cx)) := Lib.hid fun W h => (h.cell lgv).trans x1
  go_enter Try.func78, Try.ntmps78
  go_wp2_with fail
  go_quiet (fail)
  go_wp2_with fail
  have hk0 : Kept w (w.drewN nq) := below_drewN (Below.refl _ _) nq
  have hz0 := hk0.size
  generalize w.drewN nq = w0 at *
  go_region_held3 (fun W : World => W.cell? ⟨x, 1, none⟩ = some (.slice Ax xs.length cx))
    (exact KEEV.out _ (by go_grown))
    (first
      | (go_at_call 100
         (with_reducible refine Calls.mono (natOne_any _) ?_)
         rintro e wo ⟨Ao, co, rfl, hso, hko⟩
         have hKo : Kept w wo := Below.trans (by go_grown) (hko.mono (by go_size))
         have HSO := Lib.hid hso
         have hzo := hKo.size
         clear hso)
      | (go_at_call 99
         (with_reducible refine Calls.mono (HDV.out _ Ao co ?_ ?_) ?_)
         · go_grown
         · exact HSO.out.below (by go_grown)
         rintro e w1 ⟨A1, c1, ws1, rfl, hs1, _, hl1, hk1⟩
         have hK1 : Kept w w1 := Below.trans (by go_grown) (hk1.mono (by go_size))
         have hz1 := hK1.size
         have HS1 := Lib.hid hs1
         have HL1 := Lib.hid hl1
         clear hs1 hl1 hk1))
  clear hKo hko HSO hzo hk0 hz0 x0 x1 y0 y1 g1
  have hQ := KEEP.out w1.drew (hK1.trans (by go_grown))
  go_wp2_with fail
  refine wp_region_lastL _ _ _ (by simp only [List.dropLast]; rfl) (by simp only [List.getLast?_cons_cons, List.getLast?_singleton]; rfl) (fun W => W.cell? ⟨g, 1, none⟩ = some (.slice none 0 0) ∧ W.cell? ⟨y, 1, none⟩ = some (.slice Ay ys.length cy)) (by kernel_rfl) (by kernel_rfl) hQ (fun hHeld => ?_)
  refine wpAnyH_take (i := 0) (oi := ?o0) (v := ?v0) ?hi0 (by kernel_rfl) (by kernel_rfl) (by kernel_rfl) ?hQ0 ?hy0 (by assumption) ?rest0
  case hi0 => (simp only [List.getElem?_toArray, List.getElem?_cons_zero]; rfl)
  case hQ0 => exact fun _ _ _ h => h
  case hy0 => (refine Or.inl ⟨by rfl, ?_⟩; intro W hSw; (try dsimp only at hSw); go_simp; (try with_reducible rfl))
  try simp only [Act.put, List.setIfInBounds_toArray, List.set_cons_zero, List.set_cons_succ]
  refine wpAnyH_take (i := 1) (oi := ?o1) (v := ?v1) ?hi1 (by kernel_rfl) (by kernel_rfl) (by kernel_rfl) ?hQ1 ?hy1 (by assumption) ?rest1
  case hi1 => (simp only [List.getElem?_toArray, List.getElem?_cons_succ, List.getElem?_cons_zero]; rfl)
  case hQ1 => exact fun _ _ _ h => h
  case hy1 => (refine Or.inl ⟨by rfl, ?_⟩; intro W hSw; (try dsimp only at hSw); go_simp; (try with_reducible rfl))
  try simp only [Act.put, List.setIfInBounds_toArray, List.set_cons_zero, List.set_cons_succ]
  refine wpAnyH_take (i := 2) (oi := ?o2) (v := ?v2) ?hi2 (by kernel_rfl) (by kernel_rfl) (by kernel_rfl) ?hQ2 ?hy2 (by assumption) ?rest2
  case hi2 => (simp only [List.getElem?_toArray, List.getElem?_cons_succ, List.getElem?_cons_zero]; rfl)
  case hQ2 => exact fun _ _ _ h => h
  case hy2 => (refine Or.inl ⟨by rfl, ?_⟩; intro W hSw; (try dsimp only at hSw); go_simp; (try with_reducible rfl))
  try simp only [Act.put, List.setIfInBounds_toArray, List.set_cons_zero, List.set_cons_succ]
  refine wpAnyH_take (i := 3) (oi := ?o3) (v := ?v3) ?hi3 (by kernel_rfl) (by kernel_rfl) (by kernel_rfl) ?hQ3 ?hy3 (by assumption) ?rest3
  case hi3 => (simp only [List.getElem?_toArray, List.getElem?_cons_succ, List.getElem?_cons_zero]; rfl)
  case hQ3 => exact fun _ _ _ h => h
  case hy3 => (refine Or.inl ⟨by rfl, ?_⟩; intro W hSw; (try dsimp only at hSw); go_simp; (try with_reducible rfl))
  try simp only [Act.put, List.setIfInBounds_toArray, List.set_cons_zero, List.set_cons_succ]
  refine wpAnyH_take (i := 4) (oi := ?o4) (v := ?v4) ?hi4 (by kernel_rfl) (by kernel_rfl) (by kernel_rfl) ?hQ4 ?hy4 (by assumption) ?rest4
  case hi4 => (simp only [List.getElem?_toArray, List.getElem?_cons_succ, List.getElem?_cons_zero]; rfl)
  case hQ4 => exact fun _ _ _ h => h
  case hy4 => (refine Or.inl ⟨by rfl, ?_⟩; intro W hSw; (try dsimp only at hSw); go_simp; (try with_reducible rfl))
  try simp only [Act.put, List.setIfInBounds_toArray, List.set_cons_zero, List.set_cons_succ]
  refine wpAnyH_take (i := 5) (oi := ?o5) (v := ?v5) ?hi5 (by kernel_rfl) (by kernel_rfl) (by kernel_rfl) ?hQ5 ?hy5 (by assumption) ?rest5
  case hi5 => (simp only [List.getElem?_toArray, List.getElem?_cons_succ, List.getElem?_cons_zero]; rfl)
  case hQ5 => exact fun _ _ _ h => h
  case hy5 => (refine Or.inl ⟨by rfl, ?_⟩; intro W hSw; (try dsimp only at hSw); go_simp; (try with_reducible rfl))
  try simp only [Act.put, List.setIfInBounds_toArray, List.set_cons_zero, List.set_cons_succ]
  refine wpAnyH_take (i := 6) (oi := ?o6) (v := ?v6) ?hi6 (by kernel_rfl) (by kernel_rfl) (by kernel_rfl) ?hQ6 ?hy6 (by assumption) ?rest6
  case hi6 => (simp only [List.getElem?_toArray, List.getElem?_cons_succ, List.getElem?_cons_zero]; rfl)
  case hQ6 => exact fun _ _ _ h => h
  case hy6 => (refine Or.inl ⟨by rfl, ?_⟩; intro W hSw; (try dsimp only at hSw); go_simp; (try with_reducible rfl))
  try simp only [Act.put, List.setIfInBounds_toArray, List.set_cons_zero, List.set_cons_succ]
  refine wpAnyH_take (i := 7) (oi := ?o7) (v := ?v7) ?hi7 (by kernel_rfl) (by kernel_rfl) (by kernel_rfl) ?hQ7 ?hy7 (by assumption) ?rest7
  case hi7 => (simp only [List.getElem?_toArray, List.getElem?_cons_succ, List.getElem?_cons_zero]; rfl)
  case hQ7 => exact fun _ _ _ h => h
  case hy7 => (refine Or.inl ⟨by rfl, ?_⟩; intro W hSw; (try dsimp only at hSw); go_simp; (try with_reducible rfl))
  try simp only [Act.put, List.setIfInBounds_toArray, List.set_cons_zero, List.set_cons_succ]
  refine wpAnyH_take (i := 8) (oi := ?o8) (v := ?v8) ?hi8 (by kernel_rfl) (by kernel_rfl) (by kernel_rfl) ?hQ8 ?hy8 (by assumption) ?rest8
  case hi8 => (simp only [List.getElem?_toArray, List.getElem?_cons_succ, List.getElem?_cons_zero]; rfl)
  case hQ8 => exact fun _ _ _ h => h
  case hy8 => (refine Or.inl ⟨by rfl, ?_⟩; intro W hSw; (try dsimp only at hSw); go_simp; (try with_reducible rfl))
  try simp only [Act.put, List.setIfInBounds_toArray, List.set_cons_zero, List.set_cons_succ]
  refine wpAnyH_take (i := 9) (oi := ?o9) (v := ?v9) ?hi9 (by kernel_rfl) (by kernel_rfl) (by kernel_rfl) ?hQ9 ?hy9 (by assumption) ?rest9
  case hi9 => (simp only [List.getElem?_toArray, List.getElem?_cons_succ, List.getElem?_cons_zero]; rfl)
  case hQ9 => exact fun _ _ _ h => h
  case hy9 => (refine Or.inl ⟨by rfl, ?_⟩; intro W hSw; (try dsimp only at hSw); go_simp; (try with_reducible rfl))
  try simp only [Act.put, List.setIfInBounds_toArray, List.set_cons_zero, List.set_cons_succ]
  refine wpAnyH_take (i := 10) (oi := ?o10) (v := ?v10) ?hi10 (by kernel_rfl) (by kernel_rfl) (by kernel_rfl) ?hQ10 ?hy10 (by assumption) ?rest10
  case hi10 => (simp only [List.getElem?_toArray, List.getElem?_cons_succ, List.getElem?_cons_zero]; rfl)
  case hQ10 => exact fun _ _ _ h => h
  case hy10 => (refine Or.inl ⟨by rfl, ?_⟩; intro W hSw; (try dsimp only at hSw); go_simp; (try with_reducible rfl))
  try simp only [Act.put, List.setIfInBounds_toArray, List.set_cons_zero, List.set_cons_succ]
  refine wpAnyH_take (i := 11) (oi := ?o11) (v := ?v11) ?hi11 (by kernel_rfl) (by kernel_rfl) (by kernel_rfl) ?hQ11 ?hy11 (by assumption) ?rest11
  case hi11 => (simp only [List.getElem?_toArray, List.getElem?_cons_succ, List.getElem?_cons_zero]; rfl)
  case hQ11 => exact fun _ _ _ h => h
  case hy11 => (refine Or.inl ⟨by rfl, ?_⟩; intro W hSw; (try dsimp only at hSw); go_simp; (try with_reducible rfl))
  try simp only [Act.put, List.setIfInBounds_toArray, List.set_cons_zero, List.set_cons_succ]
  refine wpAnyH_take (i := 12) (oi := ?o12) (v := ?v12) ?hi12 (by kernel_rfl) (by kernel_rfl) (by kernel_rfl) ?hQ12 ?hy12 (by assumption) ?rest12
  case hi12 => (simp only [List.getElem?_toArray, List.getElem?_cons_succ, List.getElem?_cons_zero]; rfl)
  case hQ12 => exact fun _ _ _ h => h
  case hy12 => (refine Or.inl ⟨by rfl, ?_⟩; intro W hSw; (try dsimp only at hSw); go_simp; (try with_reducible rfl))
  try simp only [Act.put, List.setIfInBounds_toArray, List.set_cons_zero, List.set_cons_succ]
  refine wpAnyH_take (i := 13) (oi := ?o13) (v := ?v13) ?hi13 (by kernel_rfl) (by kernel_rfl) (by kernel_rfl) ?hQ13 ?hy13 (by assumption) ?rest13
  case hi13 => (simp only [List.getElem?_toArray, List.getElem?_cons_succ, List.getElem?_cons_zero]; rfl)
  case hQ13 => exact fun _ _ _ h => h
  case hy13 => (refine Or.inl ⟨by rfl, ?_⟩; intro W hSw; (try dsimp only at hSw); go_simp; (try with_reducible rfl))
  try simp only [Act.put, List.setIfInBounds_toArray, List.set_cons_zero, List.set_cons_succ]
  refine wpAnyH_ready (rs := [14]) (by kernel_rfl) (by simp) ?_
  refine (AllReadyH.cons rfl (fun K hK => ?_) AllReadyH.nil)
  · go_simp
    (with_reducible refine Calls.mono (HAN.out _ A1 c1 ws1 ?_ HL1.out ?_) ?_)
    · exact hK1.trans (by go_grown)
    · exact HS1.out.below (by go_grown)
    rintro e w3 ⟨A3, c3, ws3, rfl, hs3, _, hl3, hk3⟩
    have hL3 : Kept w1 w3 := Below.trans (by go_grown) (hk3.mono (by go_size))
    have hz3 := hL3.size
    have HS3 := Lib.hid hs3
    have HL3 := Lib.hid hl3
    clear hs3 hl3
    refine hK.out _ _ ?_ (fun hHeld => ?_)
    · (exact KEEP.out _ (hK1.trans (by go_grown)))
    clear hK K
    try simp only [Act.put, List.setIfInBounds_toArray, List.set_cons_zero, List.set_cons_succ]
    refine wpAnyH_ready (rs := [15]) (by kernel_rfl) (by simp) ?_
    refine (AllReadyH.cons rfl (fun K hK => ?_) AllReadyH.nil)
    · go_simp
      (with_reducible refine Calls.mono (natOne_any _) ?_)
      rintro e wo ⟨Ao, co, rfl, hso, hko⟩
      have hLo : Kept w1 wo := Below.trans (by go_grown) (hko.mono (by go_size))
      have HSO := Lib.hid hso
      have hzo := hLo.size
      clear hso
      refine hK.out _ _ ?_ (fun hHeld => ?_)
      · (exact KEEP.out _ (hK1.trans (by go_grown)))
      clear hK K
      try simp only [Act.put, List.setIfInBounds_toArray, List.set_cons_zero, List.set_cons_succ]
      refine wpAnyH_ready (rs := [16]) (by kernel_rfl) (by simp) ?_
      refine (AllReadyH.cons rfl (fun K hK => ?_) AllReadyH.nil)
      · go_simp
        (with_reducible refine Calls.mono (HIN.out _ A3 Ao c3 co ws3 HL3.out ?_ ?_) ?_)
        · exact HS3.out.below (by go_grown)
        · exact HSO.out.below (by go_grown)
        rintro e w4 ⟨A4, c4, ws4, rfl, hs4, hf4, hl4, hk4⟩
        have hL4 : Kept w1 w4 := Below.trans (by go_grown) (hk4.mono (by go_size))
        have hz4 : w1.heap.size ≤ w4.heap.size := hL4.size
        refine hK.out _ _ ?_ (fun hHeld => ?_)
        · (exact KEEP.out _ (hK1.trans (by go_grown)))
        clear hK K
        try simp only [Act.put, List.setIfInBounds_toArray, List.set_cons_zero, List.set_cons_succ]
        refine wpAnyH_take (i := 17) (oi := ?o17) (v := ?v17) ?hi17 (by kernel_rfl) (by kernel_rfl) (by kernel_rfl) ?hQ17 ?hy17 (by assumption) ?rest17
        case hi17 => (simp only [List.getElem?_toArray, List.getElem?_cons_succ, List.getElem?_cons_zero]; rfl)
        case hQ17 => exact fun _ _ _ h => h
        case hy17 => (refine Or.inl ⟨by rfl, ?_⟩; intro W hSw; (try dsimp only at hSw); go_simp; (try with_reducible rfl))
        try simp only [Act.put, List.setIfInBounds_toArray, List.set_cons_zero, List.set_cons_succ]
        refine wpAnyH_take (i := 18) (oi := ?o18) (v := ?v18) ?hi18 (by kernel_rfl) (by kernel_rfl) (by kernel_rfl) ?hQ18 ?hy18 (by assumption) ?rest18
        case hi18 => (simp only [List.getElem?_toArray, List.getElem?_cons_succ, List.getElem?_cons_zero]; rfl)
        case hQ18 => exact fun _ _ _ h => h
        case hy18 => (refine Or.inl ⟨by rfl, ?_⟩; intro W hSw; (try dsimp only at hSw); go_simp; (try with_reducible rfl))
        try simp only [Act.put, List.setIfInBounds_toArray, List.set_cons_zero, List.set_cons_succ]
        refine wpAnyH_done (by kernel_rfl) ?_ _
        have hff : Fr w.heap.size A4 := fun a ha => by
          have := hf4 a ha
          refine ⟨?_, this.2⟩
          have h1 := this.1
          exact Nat.le_trans (Nat.le_trans hz1 (by go_size)) h1
        obtain ⟨q1, q2, q3', q4, q5⟩ := fin_store HG.out (hK1.trans hL4) hs4 hff hl4 HZ.out.1
        have FIN := Lib.hid q5
        clear q5 hs4 hf4 hl4 hk4 hff
        simp only [lastQ]
        go_wp2_with fail
        go_ret
        exact FIN.out
end Go.Proofs.Ytikjdibngkcpkaa
