/- A set within another. -/
import Derived.Test.YtoociokhldakbaaGreatOA
import Derived.Deep.RegionHeld3
import Derived.Orders
namespace Go.Proofs.YtoociokhldakbaaGreat
open Go.ChangeShapes Go.WideShapes Go.ChangeAt Go.RowKit
set_option linter.unusedVariables false
/-- two made values in their boxes -/
theorem two_boxes (w : World) (a b : Array Value) (ta tb : TypeId) : Kept w ((w.alloc (.cells a ta)).alloc (.cells b tb)) ∧ Blk ((w.alloc (.cells a ta)).alloc (.cells b tb)) w.heap.size ta a ∧ Blk ((w.alloc (.cells a ta)).alloc (.cells b tb)) (w.heap.size + 1) tb b := by
  refine ⟨((Below.refl _ w).alloc (Nat.le_refl _) _).alloc (by simp) _, (Blk.new w _ _).below ((Below.refl _ _).alloc (Nat.le_refl _) _), ?_⟩
  have := Blk.new (w.alloc (.cells a ta)) tb b
  rwa [World.size_alloc] at this
set_option maxRecDepth 100000 in
set_option maxHeartbeats 2000000 in
theorem Within_of (d : Nat) (hF : ∀ d', d = d' + 1 → FiP d') : WiP d := by
  intro F G kx ky x y w hx hy
  obtain ⟨bx, Ax, cx, lx, qx, Tx, Kx, nx, ex, rfl, _, _, _, _, _, _, _, _, hnx, _, hKx⟩ := hx
  obtain ⟨by', Ay, cy, ly, qy, Ty, Ky, ny, ey, rfl, _, _, _, _, _, _, _, _, hny, _, hKy⟩ := hy
  obtain ⟨hk0, hbx, hby⟩ := two_boxes w #[.int .i64 kx, .bool bx, .slice Ax lx.length cx, .int .u64 (qx : Int), .string Tx, .slice Kx nx ex] #[.int .i64 ky, .bool by', .slice Ay ly.length cy, .int .u64 (qy : Int), .string Ty, .slice Ky ny ey] 33 33
  have HX := Lib.hid (hKx.below hk0)
  have HY := Lib.hid (hKy.below hk0)
  have HBX := Lib.hid hbx
  have HBY := Lib.hid hby
  have HK0 := Lib.hid hk0
  have HF := Lib.hid hF
  have HNY := Lib.hid hny
  have hnI : (nx : Int) ≤ 16 := by omega
  clear hKx hKy hbx hby hk0 hF hny
  go_enter Tryz.func47, Tryz.ntmps47
  go_wp2_with fail
  generalize ((w.alloc (.cells #[.int .i64 kx, .bool bx, .slice Ax lx.length cx, .int .u64 (qx : Int), .string Tx, .slice Kx nx ex] 33)).alloc (.cells #[.int .i64 ky, .bool by', .slice Ay ly.length cy, .int .u64 (qy : Int), .string Ty, .slice Ky ny ey] 33)) = W at *
  go_loopw [5] (fun iv wr => ∃ i : Nat, iv = .int .i64 (i : Int) ∧ i ≤ 17 ∧ Kept W wr) (fun iv _ => 20 - (intOf iv).toNat)
  case atStart => exact ⟨0, rfl, by omega, Below.refl _ _⟩
  case round =>
    obtain ⟨i, rfl, hi, hkW⟩ := hrel
    have HKW := Lib.hid hkW
    have x5 := (HBX.out.below hkW).cell 5
    have i0 : (0 : Int) ≤ (i : Int) := by omega
    by_cases hlt : i < nx
    · obtain ⟨d', g, k', v', ed, rfl, ha, ho⟩ := (HX.out.below HKW.out).get hlt
      obtain ⟨u0, u1, u2, u3, u4, u5, rfl, HAT⟩ := ha.open
      have CF : Hid (∀ X, Kept wr X → Calls Tryz.prog 31 #[.slice Ky ny ey, .int .i64 1, .agg #[u0, u1, u2, u3, u4, u5]] X fun e w' => (∃ r : Int, e = .returned (.int .i64 r) ∧ (r = -1 ∨ ∃ j : Nat, r = (j : Int) ∧ j < ny ∧ (j : Int) % 1 = 0)) ∧ Kept X w') := Lib.hid fun X hX =>
        HF.out d' ed _ _ Ky ny ey 1 k' _ X (.inl rfl) (by rw [← ed]; exact (HY.out.below HKW.out).below hX) HNY.out (ho.below hX)
      have CELLS : Hid (∀ X, Kept wr X → X.cell? ⟨w.heap.size + 1, 5, none⟩ = some (.slice Ky ny ey) ∧ X.cell? ⟨w.heap.size, 5, none⟩ = some (.slice (some ⟨g, 0, none⟩) nx ex)) := Lib.hid fun X hX => ⟨((HBY.out.below HKW.out).below hX).cell 5, ((HBX.out.below HKW.out).below hX).cell 5⟩
      have i1 : (i : Int) < (nx : Int) := by omega
      have HLT := Lib.hid hlt
      clear ha ho hkW hlt ed
      go_wp2_with fail
      refine wp_region_held_drew (S := (fun X : World => Kept wr X)) (by kernel_rfl) (by go_grown) (fun hHeld => ?_)
      refine wpAnyH_take (i := 0) (oi := ?o0x0) (v := ?v0x0) ?hi0x0 (by kernel_rfl) (by kernel_rfl) (by kernel_rfl) ?hQ0x0 ?hy0x0 (by assumption) ?rest0x0
      case hi0x0 => (simp only [List.getElem?_toArray, List.getElem?_cons_zero]; rfl)
      case hQ0x0 => exact fun _ _ _ h => h
      case hy0x0 => (refine Or.inl ⟨by rfl, ?_⟩; intro W hSw; (try dsimp only at hSw); go_simp; (try with_reducible rfl))
      try simp only [Act.put, List.setIfInBounds_toArray, List.set_cons_zero, List.set_cons_succ]
      refine wpAnyH_take (i := 1) (oi := ?o1x1) (v := ?v1x1) ?hi1x1 (by kernel_rfl) (by kernel_rfl) (by kernel_rfl) ?hQ1x1 ?hy1x1 (by assumption) ?rest1x1
      case hi1x1 => (simp only [List.getElem?_toArray, List.getElem?_cons_succ, List.getElem?_cons_zero]; rfl)
      case hQ1x1 => exact fun _ _ _ h => h
      case hy1x1 => (refine Or.inl ⟨by rfl, ?_⟩; intro W hSw; (try dsimp only at hSw); obtain ⟨y5, x5⟩ := CELLS.out _ hSw; go_simp; (try with_reducible rfl))
      try simp only [Act.put, List.setIfInBounds_toArray, List.set_cons_zero, List.set_cons_succ]
      refine wpAnyH_take (i := 2) (oi := ?o2x2) (v := ?v2x2) ?hi2x2 (by kernel_rfl) (by kernel_rfl) (by kernel_rfl) ?hQ2x2 ?hy2x2 (by assumption) ?rest2x2
      case hi2x2 => (simp only [List.getElem?_toArray, List.getElem?_cons_succ, List.getElem?_cons_zero]; rfl)
      case hQ2x2 => exact fun _ _ _ h => h
      case hy2x2 => (refine Or.inl ⟨by rfl, ?_⟩; intro W hSw; (try dsimp only at hSw); go_simp; (try with_reducible rfl))
      try simp only [Act.put, List.setIfInBounds_toArray, List.set_cons_zero, List.set_cons_succ]
      refine wpAnyH_take (i := 3) (oi := ?o3x3) (v := ?v3x3) ?hi3x3 (by kernel_rfl) (by kernel_rfl) (by kernel_rfl) ?hQ3x3 ?hy3x3 (by assumption) ?rest3x3
      case hi3x3 => (simp only [List.getElem?_toArray, List.getElem?_cons_succ, List.getElem?_cons_zero]; rfl)
      case hQ3x3 => exact fun _ _ _ h => h
      case hy3x3 => (refine Or.inl ⟨by rfl, ?_⟩; intro W hSw; (try dsimp only at hSw); obtain ⟨y5, x5⟩ := CELLS.out _ hSw; go_simp; (try with_reducible rfl))
      try simp only [Act.put, List.setIfInBounds_toArray, List.set_cons_zero, List.set_cons_succ]
      refine wpAnyH_take (i := 4) (oi := ?o4x4) (v := ?v4x4) ?hi4x4 (by kernel_rfl) (by kernel_rfl) (by kernel_rfl) ?hQ4x4 ?hy4x4 (by assumption) ?rest4x4
      case hi4x4 => (simp only [List.getElem?_toArray, List.getElem?_cons_succ, List.getElem?_cons_zero]; rfl)
      case hQ4x4 => exact fun _ _ _ h => h
      case hy4x4 => (refine Or.inl ⟨by rfl, ?_⟩; intro W hSw; (try dsimp only at hSw); go_simp; (try with_reducible rfl))
      try simp only [Act.put, List.setIfInBounds_toArray, List.set_cons_zero, List.set_cons_succ]
      refine wpAnyH_take (i := 5) (oi := ?o5x5) (v := ?v5x5) ?hi5x5 (by kernel_rfl) (by kernel_rfl) (by kernel_rfl) ?hQ5x5 ?hy5x5 (by assumption) ?rest5x5
      case hi5x5 => (simp only [List.getElem?_toArray, List.getElem?_cons_succ, List.getElem?_cons_zero]; rfl)
      case hQ5x5 => exact fun _ _ _ h => h
      case hy5x5 => (refine Or.inl ⟨by rfl, ?_⟩; intro W hSw; (try dsimp only at hSw); go_simp; (try with_reducible rfl))
      try simp only [Act.put, List.setIfInBounds_toArray, List.set_cons_zero, List.set_cons_succ]
      refine wpAnyH_take (i := 6) (oi := ?o6x6) (v := ?v6x6) ?hi6x6 (by kernel_rfl) (by kernel_rfl) (by kernel_rfl) ?hQ6x6 ?hy6x6 (by assumption) ?rest6x6
      case hi6x6 => (simp only [List.getElem?_toArray, List.getElem?_cons_succ, List.getElem?_cons_zero]; rfl)
      case hQ6x6 => exact fun _ _ _ h => h
      case hy6x6 => (refine Or.inl ⟨by rfl, ?_⟩; intro W hSw; (try dsimp only at hSw); obtain ⟨a0, a1, a2, a3, a4, a5⟩ := HAT.out _ hSw; go_simp; (try with_reducible rfl))
      try simp only [Act.put, List.setIfInBounds_toArray, List.set_cons_zero, List.set_cons_succ]
      refine wpAnyH_ready (rs := [7]) (by kernel_rfl) (by simp) ?_
      refine (AllReadyH.cons rfl (fun K hK => ?_) AllReadyH.nil)
      go_simp
      (with_reducible refine Calls.mono (CF.out _ (by go_grown)) ?_)
      rintro e w3 ⟨⟨r, rfl, hr⟩, hk3⟩
      have hk3a : Kept wr w3 := ⟨hk3.os, hk3.tape, hk3.output, hk3.size, hk3.block⟩
      have HK3 := Lib.hid (HKW.out.trans hk3a)
      have HKW := Lib.hid hk3a
      clear hk3 hk3a
      refine hK.out _ _ ?_ (fun hHeld => ?_)
      · (exact HKW.out)
      clear hK K
      try simp only [Act.put, List.setIfInBounds_toArray, List.set_cons_zero, List.set_cons_succ]
      refine wpAnyH_take (i := 8) (oi := ?o8x7) (v := ?v8x7) ?hi8x7 (by kernel_rfl) (by kernel_rfl) (by kernel_rfl) ?hQ8x7 ?hy8x7 (by assumption) ?rest8x7
      case hi8x7 => (simp only [List.getElem?_toArray, List.getElem?_cons_succ, List.getElem?_cons_zero]; rfl)
      case hQ8x7 => exact fun _ _ _ h => h
      case hy8x7 => (refine Or.inl ⟨by rfl, ?_⟩; intro W hSw; (try dsimp only at hSw); go_simp; (try with_reducible rfl))
      try simp only [Act.put, List.setIfInBounds_toArray, List.set_cons_zero, List.set_cons_succ]
      refine wpAnyH_done (by kernel_rfl) ?_ _
      rcases hr with rfl | ⟨j, rfl, _, _⟩
      · go_wp2_with fail
        go_ret
        exact ⟨⟨_, rfl⟩, HK0.out.trans HK3.out⟩
      · go_wp2_with fail
        exact ⟨⟨i + 1, by go_num, by have := HLT.out; omega, HK3.out⟩, by have := HLT.out; simp [intOf]; omega⟩
    · have i1 : ¬ (i : Int) < (nx : Int) := by omega
      clear hlt hkW
      go_wp2_with fail
      go_ret
      exact ⟨⟨_, rfl⟩, HK0.out.trans HKW.out⟩
end Go.Proofs.YtoociokhldakbaaGreat
