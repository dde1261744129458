import Derived.Test.YtikjdibngkcpkaaBo
namespace Go.Proofs.Ytikjdibngkcpkaa
open Go.ChangeShapes Go.WideShapes Go.ChangeAt Go.RowKit
set_option linter.unusedVariables false
set_option maxRecDepth 100000 in
set_option maxHeartbeats 4000000 in
theorem bigOr_mm (g x y : Nat) (X Y : Int) (hX : X.natAbs < Num.Cap) (hY : Y.natAbs < Num.Cap) (h0 : X < 0) (h1 : Y < 0) (w : World) (hg : BI0 w g) (hx : BI w x X) (hy : BI w y Y) :
    Calls Try.prog 78 #[.pointer (some ⟨g, 0, none⟩), .pointer (some ⟨x, 0, none⟩), .pointer (some ⟨y, 0, none⟩)] w (RetPF w g (orI X Y)) := by
  obtain ⟨Ax, cx, xs, hbx, hsx, hlx, _⟩ := hx
  obtain ⟨Ay, cy, ys, hby, hsy, hly, _⟩ := hy
  have hZ := orI_mm h0 h1
  rw [decide_eq_true h0] at hbx
  rw [decide_eq_true h1] at hby
  have g1 : w.cell? ⟨g, 1, none⟩ = some (.slice none 0 0) := Blk.cell hg 1
  have x0 : w.cell? ⟨x, 0, none⟩ = some (.bool true) := hbx.cell 0
  have x1 : w.cell? ⟨x, 1, none⟩ = some (.slice Ax xs.length cx) := hbx.cell 1
  have y0 : w.cell? ⟨y, 0, none⟩ = some (.bool true) := hby.cell 0
  have y1 : w.cell? ⟨y, 1, none⟩ = some (.slice Ay ys.length cy) := hby.cell 1
  have lgx := Blk.lt hbx
  have lgy := Blk.lt hby
  have lgg := Blk.lt hg
  have hXc : X.natAbs - 1 < Num.Cap := by omega
  have hYc : Y.natAbs - 1 < Num.Cap := by omega
  have hAc : (X.natAbs - 1) &&& (Y.natAbs - 1) < Num.Cap := Nat.lt_of_le_of_lt Nat.and_le_left hXc
  have hX1 : X.natAbs = (X.natAbs - 1) + 1 := by omega
  have hY1 : Y.natAbs = (Y.natAbs - 1) + 1 := by omega
  have lx := hlx.len hX
  have ly := hly.len hY
  have HDX : Hid (∀ (W : World) (A : Option Addr) (c : Nat), Kept w W → Sl W A c (w64 [1]) → Calls Try.prog 99 #[.slice none 0 0, .slice Ax xs.length cx, .slice A 1 c] W (RetNat W (X.natAbs - 1))) := Lib.hid fun W A c hk hs =>
    natDec_any Ax A cx c xs (X.natAbs - 1) (by rw [← hX1]; exact hlx) (by omega) W (hsx.below hk) hs
  have HDY : Hid (∀ (W : World) (A : Option Addr) (c : Nat), Kept w W → Sl W A c (w64 [1]) → Calls Try.prog 99 #[.slice none 0 0, .slice Ay ys.length cy, .slice A 1 c] W (RetNat W (Y.natAbs - 1))) := Lib.hid fun W A c hk hs =>
    natDec_any Ay A cy c ys (Y.natAbs - 1) (by rw [← hY1]; exact hly) (by omega) W (hsy.below hk) hs
  have HZ : Hid (decide (orI X Y < 0) = true ∧ (orI X Y).natAbs = ((X.natAbs - 1) &&& (Y.natAbs - 1)) + 1) := Lib.hid ⟨decide_eq_true hZ.1, by omega⟩
  have HCX := Lib.hid hXc
  have HCY := Lib.hid hYc
  have HCA := Lib.hid hAc
  have HG := Lib.hid hg
  clear hsx hsy hlx hly hbx hby hg lx ly hZ hX1 hY1 hXc hYc hAc hX hY h0 h1
  generalize orI X Y = Z at *
  generalize (X.natAbs - 1) = X' at *
  generalize (Y.natAbs - 1) = Y' at *
  generalize hN : (X' &&& Y') = N at *
  have HAN : Hid (∀ (W : World) (A1 A2 : Option Addr) (c1 c2 : Nat) (ws1 ws2 : List Nat), LW ws1 X' → LW ws2 Y' → Sl W A1 c1 (w64 ws1) → Sl W A2 c2 (w64 ws2) → Calls Try.prog 103 #[.slice none 0 0, .slice A1 ws1.length c1, .slice A2 ws2.length c2] W (RetNat W N)) := Lib.hid fun W A1 A2 c1 c2 ws1 ws2 h1 h2 s1 s2 => by
    have l1 := h1.len HCX.out
    have l2 := h2.len HCY.out
    rw [← hN, ← h1.2, ← h2.2]
    exact natAnd_any A1 A2 c1 c2 ws1 ws2 (by omega) (by omega) h1.1.1 h2.1.1 W s1 s2
  clear hN
  have KEEP : Hid (∀ W : World, Kept w W → W.cell? ⟨x, 1, none⟩ = some (.slice Ax xs.length cx) ∧ W.cell? ⟨y, 1, none⟩ = some (.slice Ay ys.length cy)) := Lib.hid fun W h => ⟨(h.cell lgx).trans x1, (h.cell lgy).trans y1⟩
  go_enter Try.func78, Try.ntmps78
  go_wp2_with fail
  go_quiet (fail)
  go_wp2_with fail
  have hk0 : Kept w (w.drewN nq) := below_drewN (Below.refl _ _) nq
  have hz0 := hk0.size
  generalize w.drewN nq = w0 at *
  go_region_held3 (fun W : World => W.cell? ⟨x, 1, none⟩ = some (.slice Ax xs.length cx) ∧ W.cell? ⟨y, 1, none⟩ = some (.slice Ay ys.length cy))
    (exact KEEP.out _ (by go_grown))
    (first
      | (go_at_call 100
         (with_reducible refine Calls.mono (natOne_any _) ?_)
         rintro e wo ⟨Ao, co, rfl, hso, hko⟩
         have hKo : Kept w wo := Below.trans (by go_grown) (hko.mono (by go_size))
         have HSO := Lib.hid hso
         have hzo := hKo.size
         clear hso)
      | (go_at_call 99
         (with_reducible refine Calls.mono (HDX.out _ Ao co ?_ ?_) ?_)
         · go_grown
         · exact HSO.out.below (by go_grown)
         rintro e w1 ⟨A1, c1, ws1, rfl, hs1, _, hl1, hk1⟩
         have hK1 : Kept w w1 := Below.trans (by go_grown) (hk1.mono (by go_size))
         have hz1 := hK1.size
         have HS1 := Lib.hid hs1
         have HL1 := Lib.hid hl1
         clear hs1 hl1 hk1))
  clear hKo hko HSO hzo
  have KEEP1 : Hid (∀ W : World, Kept w1 W → W.cell? ⟨x, 1, none⟩ = some (.slice Ax xs.length cx) ∧ W.cell? ⟨y, 1, none⟩ = some (.slice Ay ys.length cy)) := Lib.hid fun W h => KEEP.out W (hK1.trans h)
  have x1' := (hK1.cell lgx).trans x1
  have y1' := (hK1.cell lgy).trans y1
  have g1' := (hK1.cell lgg).trans g1
  clear x0 y0 x1 y1 g1
  go_wp2_with fail
  go_region_held3 (fun W : World => W.cell? ⟨x, 1, none⟩ = some (.slice Ax xs.length cx) ∧ W.cell? ⟨y, 1, none⟩ = some (.slice Ay ys.length cy))
    (exact KEEP1.out _ (by go_grown))
    (first
      | (go_at_call 100
         (with_reducible refine Calls.mono (natOne_any _) ?_)
         rintro e wo ⟨Ao, co, rfl, hso, hko⟩
         have hLo : Kept w1 wo := Below.trans (by go_grown) (hko.mono (by go_size))
         have HSO := Lib.hid hso
         have hzo := hLo.size
         clear hso)
      | (go_at_call 99
         (with_reducible refine Calls.mono (HDY.out _ Ao co ?_ ?_) ?_)
         · exact hK1.trans (by go_grown)
         · exact HSO.out.below (by go_grown)
         rintro e w2 ⟨A2, c2, ws2, rfl, hs2, _, hl2, hk2⟩
         have hL2 : Kept w1 w2 := Below.trans (by go_grown) (hk2.mono (by go_size))
         have hz2 := hL2.size
         have HS2 := Lib.hid hs2
         have HL2 := Lib.hid hl2
         clear hs2 hl2 hk2))
  clear hLo hko HSO hzo
  have HS12 := Lib.hid (HS1.out.below hL2)
  have hK2 : Kept w w2 := hK1.trans hL2
  have HK2 := Lib.hid hK2
  have hQ : ∀ W : World, Kept w2 W → W.cell? ⟨g, 1, none⟩ = some (.slice none 0 0) := fun W h => ((hL2.trans h).cell (p := ⟨g, 1, none⟩) (Nat.lt_of_lt_of_le lgg hK1.size)).trans g1'
  have g2 := hQ w2 (Below.refl _ _)
  have HQ := Lib.hid hQ
  have HIN : Hid (∀ (W : World) (A1 A2 : Option Addr) (c1 c2 : Nat) (ws : List Nat), LW ws N → Sl W A1 c1 (w64 ws) → Sl W A2 c2 (w64 [1]) → Calls Try.prog 102 #[.slice none 0 0, .slice A1 ws.length c1, .slice A2 1 c2] W (RetNat W (N + 1))) := Lib.hid fun W A1 A2 c1 c2 ws h1 s1 s2 => by
    have l1 := h1.len HCA.out
    exact natInc_any A1 A2 c1 c2 ws N h1 (by omega) W s1 s2
  rw [← HZ.out.2] at HIN
  clear x1' y1' g1' hQ hK2 hL2 hK1 HS1 KEEP KEEP1 HDX HDY HCX HCY HCA
  go_wp2_with fail
  go_region_with (first
    | (go_at_call 100
       (with_reducible refine Calls.mono (natOne_any _) ?_)
       rintro e wo ⟨Ao, co, rfl, hso, hko⟩
       have hLo : Kept w2 wo := Below.trans (by go_grown) (hko.mono (by go_size))
       have HSO := Lib.hid hso
       have qo := HQ.out wo hLo
       have hzo := hLo.size
       clear hso)
    | (go_at_call 103
       (with_reducible refine Calls.mono (HAN.out _ A1 A2 c1 c2 ws1 ws2 HL1.out HL2.out ?_ ?_) ?_)
       · exact HS12.out.below (by go_grown)
       · exact HS2.out.below (by go_grown)
       rintro e w3 ⟨A3, c3, ws3, rfl, hs3, _, hl3, hk3⟩
       have hL3 : Kept w2 w3 := Below.trans (by go_grown) (hk3.mono (by go_size))
       have hz3 := hL3.size
       have HS3 := Lib.hid hs3
       have HL3 := Lib.hid hl3
       have q3 := HQ.out w3 hL3
       clear hs3 hl3)
    | (go_at_call 102
       (with_reducible refine Calls.mono (HIN.out _ A3 Ao c3 co ws3 HL3.out ?_ ?_) ?_)
       · exact HS3.out.below (by go_grown)
       · exact HSO.out.below (by go_grown)
       rintro e w4 ⟨A4, c4, ws4, rfl, hs4, hf4, hl4, hk4⟩
       have hL4 : Kept w2 w4 := Below.trans (by go_grown) (hk4.mono (by go_size))
       have hz4 : w2.heap.size ≤ w4.heap.size := hL4.size
       have hff : Fr w.heap.size A4 := fun a ha => by
         have := hf4 a ha
         have hz := HK2.out.size
         refine ⟨?_, this.2⟩
         have h1 := this.1
         exact Nat.le_trans (Nat.le_trans hz (by go_size)) h1
       obtain ⟨q1, q2, q3', q4, q5⟩ := fin_store HG.out (HK2.out.trans hL4) hs4 hff hl4 HZ.out.1
       have FIN := Lib.hid q5
       clear q5 hs4 hf4 hl4 hk4 hff))
  all_goals
    go_wp2_with fail
    go_ret
    exact FIN.out
theorem bigOr_any (g x y : Nat) (X Y : Int) (hX : X.natAbs < Num.Cap) (hY : Y.natAbs < Num.Cap) (w : World) (hg : BI0 w g) (hx : BI w x X) (hy : BI w y Y) :
    Calls Try.prog 78 #[.pointer (some ⟨g, 0, none⟩), .pointer (some ⟨x, 0, none⟩), .pointer (some ⟨y, 0, none⟩)] w (RetPF w g (orI X Y)) := by
  by_cases h0 : X < 0 <;> by_cases h1 : Y < 0
  · exact bigOr_mm g x y X Y hX hY h0 h1 w hg hx hy
  · exact bigOr_mp g x y X Y hX hY h0 h1 w hg hx hy
  · exact bigOr_pm g x y X Y hX hY h0 h1 w hg hx hy
  · exact bigOr_pp g x y X Y hX hY h0 h1 w hg hx hy
end Go.Proofs.Ytikjdibngkcpkaa
