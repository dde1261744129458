/- Two numbers compared. -/
import Derived.Test.YtoociokhldakbaaGreatOL
import Derived.Deep.RegionHeld3
import Derived.Orders
namespace Go.Proofs.YtoociokhldakbaaGreat
open Go.ChangeShapes Go.WideShapes Go.ChangeAt Go.RowKit
set_option linter.unusedVariables false
set_option maxRecDepth 100000 in
set_option maxHeartbeats 2000000 in
theorem cmpNumbers_any (F G : Nat → Prop) (d f : Nat) (kx ky : Int) (x y : Value) (w : World) (hx : OG F w d kx x) (hy : OG G w f ky y) :
    Calls Tryz.prog 46 #[x, y] w fun e w' => (∃ r : Int, e = .returned (.int .i64 r)) ∧ Kept w w' := by
  obtain ⟨bx, Ax, cx, lx, qx, Tx, Kx, nx, ex, rfl, sx, _, lenx, dx, _, ux, _⟩ := hx
  obtain ⟨by', Ay, cy, ly, qy, Ty, Ky, ny, ey, rfl, sy, _, leny, dy, _, uy, _⟩ := hy
  obtain ⟨W, hW⟩ : ∃ W, W = ((w.alloc (.cells #[.int .i64 kx, .bool bx, .slice Ax lx.length cx, .int .u64 (qx : Int), .string Tx, .slice Kx nx ex] 33)).alloc (.cells #[.int .i64 ky, .bool by', .slice Ay ly.length cy, .int .u64 (qy : Int), .string Ty, .slice Ky ny ey] 33)) := ⟨_, rfl⟩
  have hk0 : Kept w W := by rw [hW]; exact ((Below.refl _ _).alloc (Nat.le_refl _) _).alloc (by simp) _
  have hbx : Blk W w.heap.size 33 #[.int .i64 kx, .bool bx, .slice Ax lx.length cx, .int .u64 (qx : Int), .string Tx, .slice Kx nx ex] := by
    rw [hW]
    exact (Blk.new w _ _).below ((Below.refl _ _).alloc (Nat.le_refl _) _)
  have hby : Blk W (w.heap.size + 1) 33 #[.int .i64 ky, .bool by', .slice Ay ly.length cy, .int .u64 (qy : Int), .string Ty, .slice Ky ny ey] := by
    rw [hW]
    have := Blk.new (w.alloc (.cells #[.int .i64 kx, .bool bx, .slice Ax lx.length cx, .int .u64 (qx : Int), .string Tx, .slice Kx nx ex] 33)) 33 #[.int .i64 ky, .bool by', .slice Ay ly.length cy, .int .u64 (qy : Int), .string Ty, .slice Ky ny ey]
    rwa [World.size_alloc] at this
  have HNx : Hid (∀ X, Kept W X → Calls Tryz.prog 54 #[.agg #[.int .i64 kx, .bool bx, .slice Ax lx.length cx, .int .u64 (qx : Int), .string Tx, .slice Kx nx ex]] X (RetSI X (sgn bx (Num.le 256 lx.reverse)))) := Lib.hid fun X h => Num_any kx qx bx Ax Kx cx nx ex Tx lx (by omega) dx X ((sx.below hk0).below h)
  have HNy : Hid (∀ X, Kept W X → Calls Tryz.prog 54 #[.agg #[.int .i64 ky, .bool by', .slice Ay ly.length cy, .int .u64 (qy : Int), .string Ty, .slice Ky ny ey]] X (RetSI X (sgn by' (Num.le 256 ly.reverse)))) := Lib.hid fun X h => Num_any ky qy by' Ay Ky cy ny ey Ty ly (by omega) dy X ((sy.below hk0).below h)
  have HFx := Lib.hid (fun X => Fl_any kx qx bx Ax Kx lx.length cx nx ex Tx X)
  have HFy := Lib.hid (fun X => Fl_any ky qy by' Ay Ky ly.length cy ny ey Ty X)
  have UX := Lib.hid ux
  have UY := Lib.hid uy
  have HBx := Lib.hid hbx
  have HBy := Lib.hid hby
  have HK0 := Lib.hid hk0
  have cX := hbx.cell 0
  have cY := hby.cell 0
  generalize sgn bx (Num.le 256 lx.reverse) = zx at *
  generalize sgn by' (Num.le 256 ly.reverse) = zy at *
  clear sx sy lenx leny dx dy ux uy hk0
  by_cases h1 : kx = 2
  · have h1' : (kx == 2) = true := by simpa using h1
    clear h1
    by_cases h2 : ky = 2
    · have h2' : (ky == 2) = true := by simpa using h2
      clear h2
      subst hW
      go_enter Tryz.func46, Tryz.ntmps46
      go_wp2_with fail
      generalize ((w.alloc (.cells #[.int .i64 kx, .bool bx, .slice Ax lx.length cx, .int .u64 (qx : Int), .string Tx, .slice Kx nx ex] 33)).alloc (.cells #[.int .i64 ky, .bool by', .slice Ay ly.length cy, .int .u64 (qy : Int), .string Ty, .slice Ky ny ey] 33)) = W at *
      refine wp_region_held_drew (S := (fun X : World => Kept W X)) (by kernel_rfl) (by go_grown) (fun hHeld => ?_)
      refine wpAnyH_take (i := 0) (oi := ?o0x0) (v := (.agg #[.int .i64 kx, .bool bx, .slice Ax lx.length cx, .int .u64 (qx : Int), .string Tx, .slice Kx nx ex])) ?hi0x0 (by kernel_rfl) (by kernel_rfl) (by kernel_rfl) ?hQ0x0 ?hy0x0 (by assumption) ?rest0x0
      case hi0x0 => (simp only [List.getElem?_toArray, List.getElem?_cons_zero]; rfl)
      case hQ0x0 => exact fun _ _ _ h => h
      case hy0x0 => exact yields_load_row (by rfl) 33 (.tmp 2) (by rfl) w.heap.size (by rfl) _ _ _ (fun X hX => HBx.out.below hX) Tryz.underlying33 (by rfl) info_Vl
      try simp only [Act.put, List.setIfInBounds_toArray, List.set_cons_zero, List.set_cons_succ]
      refine wpAnyH_take (i := 2) (oi := ?o2x1) (v := (.agg #[.int .i64 ky, .bool by', .slice Ay ly.length cy, .int .u64 (qy : Int), .string Ty, .slice Ky ny ey])) ?hi2x1 (by kernel_rfl) (by kernel_rfl) (by kernel_rfl) ?hQ2x1 ?hy2x1 (by assumption) ?rest2x1
      case hi2x1 => (simp only [List.getElem?_toArray, List.getElem?_cons_succ, List.getElem?_cons_zero]; rfl)
      case hQ2x1 => exact fun _ _ _ h => h
      case hy2x1 => exact yields_load_row (by rfl) 33 (.tmp 3) (by rfl) (w.heap.size + 1) (by rfl) _ _ _ (fun X hX => HBy.out.below hX) Tryz.underlying33 (by rfl) info_Vl
      try simp only [Act.put, List.setIfInBounds_toArray, List.set_cons_zero, List.set_cons_succ]
      refine wpAnyH_ready (rs := [1]) (by kernel_rfl) (by simp) ?_
      refine (AllReadyH.cons rfl (fun K hK => ?_) AllReadyH.nil)
      go_simp
      (with_reducible refine Calls.mono (HNx.out _ ?_) ?_)
      · go_grown
      rintro e w1 ⟨v1, rfl, hv1, hk1⟩
      have hK1 : Kept W w1 := ⟨hk1.os, hk1.tape, hk1.output, hk1.size, hk1.block⟩
      have HKW := Lib.hid hK1
      have HV1 := Lib.hid hv1.toSI
      obtain ⟨b1, A1, n1, c1, rfl⟩ := hv1.two
      clear hv1 hk1 hK1
      refine hK.out _ _ ?_ (fun hHeld => ?_)
      · (exact HKW.out)
      clear hK K
      try simp only [Act.put, List.setIfInBounds_toArray, List.set_cons_zero, List.set_cons_succ]
      refine wpAnyH_ready (rs := [3]) (by kernel_rfl) (by simp) ?_
      refine (AllReadyH.cons rfl (fun K hK => ?_) AllReadyH.nil)
      go_simp
      (with_reducible refine Calls.mono (HNy.out _ ?_) ?_)
      · go_grown
      rintro e w2 ⟨v2, rfl, hv2, hk2⟩
      have hK2 : Kept W w2 := HKW.out.trans hk2
      have HKW := Lib.hid hK2
      have HV1 := Lib.hid (HV1.out.below hk2)
      have HV2 := Lib.hid hv2.toSI
      obtain ⟨b2, A2, n2, c2, rfl⟩ := hv2.two
      clear hv2 hk2 hK2
      refine hK.out _ _ ?_ (fun hHeld => ?_)
      · (exact HKW.out)
      clear hK K
      try simp only [Act.put, List.setIfInBounds_toArray, List.set_cons_zero, List.set_cons_succ]
      refine wpAnyH_ready (rs := [4]) (by kernel_rfl) (by simp) ?_
      refine (AllReadyH.cons rfl (fun K hK => ?_) AllReadyH.nil)
      go_simp
      (with_reducible refine Calls.mono (sCmp_any b1 A1 n1 c1 zx b2 A2 n2 c2 zy _ HV1.out HV2.out) ?_)
      rintro e w3 ⟨rfl, hk3⟩
      have hK3 : Kept W w3 := HKW.out.trans hk3
      have HKW := Lib.hid hK3
      clear hk3 hK3
      refine hK.out _ _ ?_ (fun hHeld => ?_)
      · (exact HKW.out)
      clear hK K
      try simp only [Act.put, List.setIfInBounds_toArray, List.set_cons_zero, List.set_cons_succ]
      refine wpAnyH_take (i := 5) (oi := ?o5x2) (v := ?v5x2) ?hi5x2 (by kernel_rfl) (by kernel_rfl) (by kernel_rfl) ?hQ5x2 ?hy5x2 (by assumption) ?rest5x2
      case hi5x2 => (simp only [List.getElem?_toArray, List.getElem?_cons_succ, List.getElem?_cons_zero]; rfl)
      case hQ5x2 => exact fun _ _ _ h => h
      case hy5x2 => (refine Or.inl ⟨by rfl, ?_⟩; intro W hSw; (try dsimp only at hSw); go_simp; (try with_reducible rfl))
      try simp only [Act.put, List.setIfInBounds_toArray, List.set_cons_zero, List.set_cons_succ]
      refine wpAnyH_done (by kernel_rfl) ?_ _
      go_wp2_with fail
      go_ret
      exact ⟨⟨_, rfl⟩, HK0.out.trans HKW.out⟩
    · have h2' : (ky == 2) = false := by simpa using h2
      subst hW
      go_enter Tryz.func46, Tryz.ntmps46
      go_wp2_with fail
      generalize ((w.alloc (.cells #[.int .i64 kx, .bool bx, .slice Ax lx.length cx, .int .u64 (qx : Int), .string Tx, .slice Kx nx ex] 33)).alloc (.cells #[.int .i64 ky, .bool by', .slice Ay ly.length cy, .int .u64 (qy : Int), .string Ty, .slice Ky ny ey] 33)) = W at *
      refine wp_region_held_drew (S := (fun X : World => Kept W X)) (by kernel_rfl) (by go_grown) (fun hHeld => ?_)
      refine wpAnyH_take (i := 0) (oi := ?o0x3) (v := (.agg #[.int .i64 kx, .bool bx, .slice Ax lx.length cx, .int .u64 (qx : Int), .string Tx, .slice Kx nx ex])) ?hi0x3 (by kernel_rfl) (by kernel_rfl) (by kernel_rfl) ?hQ0x3 ?hy0x3 (by assumption) ?rest0x3
      case hi0x3 => (simp only [List.getElem?_toArray, List.getElem?_cons_zero]; rfl)
      case hQ0x3 => exact fun _ _ _ h => h
      case hy0x3 => exact yields_load_row (by rfl) 33 (.tmp 2) (by rfl) w.heap.size (by rfl) _ _ _ (fun X hX => HBx.out.below hX) Tryz.underlying33 (by rfl) info_Vl
      try simp only [Act.put, List.setIfInBounds_toArray, List.set_cons_zero, List.set_cons_succ]
      refine wpAnyH_take (i := 2) (oi := ?o2x4) (v := (.agg #[.int .i64 ky, .bool by', .slice Ay ly.length cy, .int .u64 (qy : Int), .string Ty, .slice Ky ny ey])) ?hi2x4 (by kernel_rfl) (by kernel_rfl) (by kernel_rfl) ?hQ2x4 ?hy2x4 (by assumption) ?rest2x4
      case hi2x4 => (simp only [List.getElem?_toArray, List.getElem?_cons_succ, List.getElem?_cons_zero]; rfl)
      case hQ2x4 => exact fun _ _ _ h => h
      case hy2x4 => exact yields_load_row (by rfl) 33 (.tmp 3) (by rfl) (w.heap.size + 1) (by rfl) _ _ _ (fun X hX => HBy.out.below hX) Tryz.underlying33 (by rfl) info_Vl
      try simp only [Act.put, List.setIfInBounds_toArray, List.set_cons_zero, List.set_cons_succ]
      refine wpAnyH_ready (rs := [1]) (by kernel_rfl) (by simp) ?_
      refine (AllReadyH.cons rfl (fun K hK => ?_) AllReadyH.nil)
      go_simp
      (with_reducible refine Calls.mono (HNx.out _ ?_) ?_)
      · go_grown
      rintro e w1 ⟨v1, rfl, hv1, hk1⟩
      have hK1 : Kept W w1 := ⟨hk1.os, hk1.tape, hk1.output, hk1.size, hk1.block⟩
      have HKW := Lib.hid hK1
      have HV1 := Lib.hid hv1.toSI
      obtain ⟨b1, A1, n1, c1, rfl⟩ := hv1.two
      clear hv1 hk1 hK1
      refine hK.out _ _ ?_ (fun hHeld => ?_)
      · (exact HKW.out)
      clear hK K
      try simp only [Act.put, List.setIfInBounds_toArray, List.set_cons_zero, List.set_cons_succ]
      refine wpAnyH_ready (rs := [3]) (by kernel_rfl) (by simp) ?_
      refine (AllReadyH.cons rfl (fun K hK => ?_) AllReadyH.nil)
      go_simp
      (with_reducible refine Calls.mono (HFy.out _) ?_)
      rintro e w2 ⟨rfl, hk2⟩
      have hK2 : Kept W w2 := HKW.out.trans hk2
      have HV1 := Lib.hid (HV1.out.below hk2)
      have HKW := Lib.hid hK2
      clear hk2 hK2
      refine hK.out _ _ ?_ (fun hHeld => ?_)
      · (exact HKW.out)
      clear hK K
      try simp only [Act.put, List.setIfInBounds_toArray, List.set_cons_zero, List.set_cons_succ]
      refine wpAnyH_ready (rs := [4]) (by kernel_rfl) (by simp) ?_
      refine (AllReadyH.cons rfl (fun K hK => ?_) AllReadyH.nil)
      go_simp
      (with_reducible refine Calls.mono (CmpFloat_any b1 A1 n1 c1 zx qy UY.out _ HV1.out) ?_)
      rintro e w3 ⟨⟨r, rfl⟩, hk3⟩
      have hK3 : Kept W w3 := HKW.out.trans hk3
      have HKW := Lib.hid hK3
      clear hk3 hK3
      refine hK.out _ _ ?_ (fun hHeld => ?_)
      · (exact HKW.out)
      clear hK K
      try simp only [Act.put, List.setIfInBounds_toArray, List.set_cons_zero, List.set_cons_succ]
      refine wpAnyH_take (i := 5) (oi := ?o5x5) (v := ?v5x5) ?hi5x5 (by kernel_rfl) (by kernel_rfl) (by kernel_rfl) ?hQ5x5 ?hy5x5 (by assumption) ?rest5x5
      case hi5x5 => (simp only [List.getElem?_toArray, List.getElem?_cons_succ, List.getElem?_cons_zero]; rfl)
      case hQ5x5 => exact fun _ _ _ h => h
      case hy5x5 => (refine Or.inl ⟨by rfl, ?_⟩; intro W hSw; (try dsimp only at hSw); go_simp; (try with_reducible rfl))
      try simp only [Act.put, List.setIfInBounds_toArray, List.set_cons_zero, List.set_cons_succ]
      refine wpAnyH_done (by kernel_rfl) ?_ _
      go_wp2_with fail
      go_ret
      exact ⟨⟨_, rfl⟩, HK0.out.trans HKW.out⟩
  · have h1' : (kx == 2) = false := by simpa using h1
    by_cases h2 : ky = 2
    · have h2' : (ky == 2) = true := by simpa using h2
      clear h2
      subst hW
      go_enter Tryz.func46, Tryz.ntmps46
      go_wp2_with fail
      generalize ((w.alloc (.cells #[.int .i64 kx, .bool bx, .slice Ax lx.length cx, .int .u64 (qx : Int), .string Tx, .slice Kx nx ex] 33)).alloc (.cells #[.int .i64 ky, .bool by', .slice Ay ly.length cy, .int .u64 (qy : Int), .string Ty, .slice Ky ny ey] 33)) = W at *
      refine wp_region_held_drew (S := (fun X : World => Kept W X)) (by kernel_rfl) (by go_grown) (fun hHeld => ?_)
      refine wpAnyH_take (i := 0) (oi := ?o0x6) (v := (.agg #[.int .i64 ky, .bool by', .slice Ay ly.length cy, .int .u64 (qy : Int), .string Ty, .slice Ky ny ey])) ?hi0x6 (by kernel_rfl) (by kernel_rfl) (by kernel_rfl) ?hQ0x6 ?hy0x6 (by assumption) ?rest0x6
      case hi0x6 => (simp only [List.getElem?_toArray, List.getElem?_cons_zero]; rfl)
      case hQ0x6 => exact fun _ _ _ h => h
      case hy0x6 => exact yields_load_row (by rfl) 33 (.tmp 3) (by rfl) (w.heap.size + 1) (by rfl) _ _ _ (fun X hX => HBy.out.below hX) Tryz.underlying33 (by rfl) info_Vl
      try simp only [Act.put, List.setIfInBounds_toArray, List.set_cons_zero, List.set_cons_succ]
      refine wpAnyH_take (i := 2) (oi := ?o2x7) (v := (.agg #[.int .i64 kx, .bool bx, .slice Ax lx.length cx, .int .u64 (qx : Int), .string Tx, .slice Kx nx ex])) ?hi2x7 (by kernel_rfl) (by kernel_rfl) (by kernel_rfl) ?hQ2x7 ?hy2x7 (by assumption) ?rest2x7
      case hi2x7 => (simp only [List.getElem?_toArray, List.getElem?_cons_succ, List.getElem?_cons_zero]; rfl)
      case hQ2x7 => exact fun _ _ _ h => h
      case hy2x7 => exact yields_load_row (by rfl) 33 (.tmp 2) (by rfl) w.heap.size (by rfl) _ _ _ (fun X hX => HBx.out.below hX) Tryz.underlying33 (by rfl) info_Vl
      try simp only [Act.put, List.setIfInBounds_toArray, List.set_cons_zero, List.set_cons_succ]
      refine wpAnyH_ready (rs := [1]) (by kernel_rfl) (by simp) ?_
      refine (AllReadyH.cons rfl (fun K hK => ?_) AllReadyH.nil)
      go_simp
      (with_reducible refine Calls.mono (HNy.out _ ?_) ?_)
      · go_grown
      rintro e w1 ⟨v1, rfl, hv1, hk1⟩
      have hK1 : Kept W w1 := ⟨hk1.os, hk1.tape, hk1.output, hk1.size, hk1.block⟩
      have HKW := Lib.hid hK1
      have HV1 := Lib.hid hv1.toSI
      obtain ⟨b1, A1, n1, c1, rfl⟩ := hv1.two
      clear hv1 hk1 hK1
      refine hK.out _ _ ?_ (fun hHeld => ?_)
      · (exact HKW.out)
      clear hK K
      try simp only [Act.put, List.setIfInBounds_toArray, List.set_cons_zero, List.set_cons_succ]
      refine wpAnyH_ready (rs := [3]) (by kernel_rfl) (by simp) ?_
      refine (AllReadyH.cons rfl (fun K hK => ?_) AllReadyH.nil)
      go_simp
      (with_reducible refine Calls.mono (HFx.out _) ?_)
      rintro e w2 ⟨rfl, hk2⟩
      have hK2 : Kept W w2 := HKW.out.trans hk2
      have HV1 := Lib.hid (HV1.out.below hk2)
      have HKW := Lib.hid hK2
      clear hk2 hK2
      refine hK.out _ _ ?_ (fun hHeld => ?_)
      · (exact HKW.out)
      clear hK K
      try simp only [Act.put, List.setIfInBounds_toArray, List.set_cons_zero, List.set_cons_succ]
      refine wpAnyH_ready (rs := [4]) (by kernel_rfl) (by simp) ?_
      refine (AllReadyH.cons rfl (fun K hK => ?_) AllReadyH.nil)
      go_simp
      (with_reducible refine Calls.mono (CmpFloat_any b1 A1 n1 c1 zy qx UX.out _ HV1.out) ?_)
      rintro e w3 ⟨⟨r, rfl⟩, hk3⟩
      have hK3 : Kept W w3 := HKW.out.trans hk3
      have HKW := Lib.hid hK3
      clear hk3 hK3
      refine hK.out _ _ ?_ (fun hHeld => ?_)
      · (exact HKW.out)
      clear hK K
      try simp only [Act.put, List.setIfInBounds_toArray, List.set_cons_zero, List.set_cons_succ]
      refine wpAnyH_take (i := 5) (oi := ?o5x8) (v := ?v5x8) ?hi5x8 (by kernel_rfl) (by kernel_rfl) (by kernel_rfl) ?hQ5x8 ?hy5x8 (by assumption) ?rest5x8
      case hi5x8 => (simp only [List.getElem?_toArray, List.getElem?_cons_succ, List.getElem?_cons_zero]; rfl)
      case hQ5x8 => exact fun _ _ _ h => h
      case hy5x8 => (refine Or.inl ⟨by rfl, ?_⟩; intro W hSw; (try dsimp only at hSw); go_simp; (try with_reducible rfl))
      try simp only [Act.put, List.setIfInBounds_toArray, List.set_cons_zero, List.set_cons_succ]
      refine wpAnyH_take (i := 6) (oi := ?o6x9) (v := ?v6x9) ?hi6x9 (by kernel_rfl) (by kernel_rfl) (by kernel_rfl) ?hQ6x9 ?hy6x9 (by assumption) ?rest6x9
      case hi6x9 => (simp only [List.getElem?_toArray, List.getElem?_cons_succ, List.getElem?_cons_zero]; rfl)
      case hQ6x9 => exact fun _ _ _ h => h
      case hy6x9 => (refine Or.inl ⟨by rfl, ?_⟩; intro W hSw; (try dsimp only at hSw); go_simp; (try with_reducible rfl))
      try simp only [Act.put, List.setIfInBounds_toArray, List.set_cons_zero, List.set_cons_succ]
      refine wpAnyH_done (by kernel_rfl) ?_ _
      go_wp2_with fail
      go_ret
      exact ⟨⟨_, rfl⟩, HK0.out.trans HKW.out⟩
    · have h2' : (ky == 2) = false := by simpa using h2
      subst hW
      go_enter Tryz.func46, Tryz.ntmps46
      go_wp2_with fail
      generalize ((w.alloc (.cells #[.int .i64 kx, .bool bx, .slice Ax lx.length cx, .int .u64 (qx : Int), .string Tx, .slice Kx nx ex] 33)).alloc (.cells #[.int .i64 ky, .bool by', .slice Ay ly.length cy, .int .u64 (qy : Int), .string Ty, .slice Ky ny ey] 33)) = W at *
      refine wp_region_held_drew (S := (fun X : World => Kept W X)) (by kernel_rfl) (by go_grown) (fun hHeld => ?_)
      refine wpAnyH_take (i := 0) (oi := ?o0x10) (v := (.agg #[.int .i64 kx, .bool bx, .slice Ax lx.length cx, .int .u64 (qx : Int), .string Tx, .slice Kx nx ex])) ?hi0x10 (by kernel_rfl) (by kernel_rfl) (by kernel_rfl) ?hQ0x10 ?hy0x10 (by assumption) ?rest0x10
      case hi0x10 => (simp only [List.getElem?_toArray, List.getElem?_cons_zero]; rfl)
      case hQ0x10 => exact fun _ _ _ h => h
      case hy0x10 => exact yields_load_row (by rfl) 33 (.tmp 2) (by rfl) w.heap.size (by rfl) _ _ _ (fun X hX => HBx.out.below hX) Tryz.underlying33 (by rfl) info_Vl
      try simp only [Act.put, List.setIfInBounds_toArray, List.set_cons_zero, List.set_cons_succ]
      refine wpAnyH_take (i := 2) (oi := ?o2x11) (v := (.agg #[.int .i64 ky, .bool by', .slice Ay ly.length cy, .int .u64 (qy : Int), .string Ty, .slice Ky ny ey])) ?hi2x11 (by kernel_rfl) (by kernel_rfl) (by kernel_rfl) ?hQ2x11 ?hy2x11 (by assumption) ?rest2x11
      case hi2x11 => (simp only [List.getElem?_toArray, List.getElem?_cons_succ, List.getElem?_cons_zero]; rfl)
      case hQ2x11 => exact fun _ _ _ h => h
      case hy2x11 => exact yields_load_row (by rfl) 33 (.tmp 3) (by rfl) (w.heap.size + 1) (by rfl) _ _ _ (fun X hX => HBy.out.below hX) Tryz.underlying33 (by rfl) info_Vl
      try simp only [Act.put, List.setIfInBounds_toArray, List.set_cons_zero, List.set_cons_succ]
      refine wpAnyH_ready (rs := [1]) (by kernel_rfl) (by simp) ?_
      refine (AllReadyH.cons rfl (fun K hK => ?_) AllReadyH.nil)
      go_simp
      (with_reducible refine Calls.mono (HFx.out _) ?_)
      rintro e w1 ⟨rfl, hk1⟩
      have hK1 : Kept W w1 := ⟨hk1.os, hk1.tape, hk1.output, hk1.size, hk1.block⟩
      have HKW := Lib.hid hK1
      clear hk1 hK1
      refine hK.out _ _ ?_ (fun hHeld => ?_)
      · (exact HKW.out)
      clear hK K
      try simp only [Act.put, List.setIfInBounds_toArray, List.set_cons_zero, List.set_cons_succ]
      refine wpAnyH_ready (rs := [3]) (by kernel_rfl) (by simp) ?_
      refine (AllReadyH.cons rfl (fun K hK => ?_) AllReadyH.nil)
      go_simp
      (with_reducible refine Calls.mono (HFy.out _) ?_)
      rintro e w2 ⟨rfl, hk2⟩
      have hK2 : Kept W w2 := HKW.out.trans hk2
      have HKW := Lib.hid hK2
      clear hk2 hK2
      refine hK.out _ _ ?_ (fun hHeld => ?_)
      · (exact HKW.out)
      clear hK K
      try simp only [Act.put, List.setIfInBounds_toArray, List.set_cons_zero, List.set_cons_succ]
      refine wpAnyH_ready (rs := [4]) (by kernel_rfl) (by simp) ?_
      refine (AllReadyH.cons rfl (fun K hK => ?_) AllReadyH.nil)
      go_simp
      (with_reducible refine Calls.mono (CmpFloats_any qx qy _) ?_)
      rintro e w3 ⟨⟨r, rfl⟩, rfl⟩
      refine hK.out _ _ ?_ (fun hHeld => ?_)
      · (exact HKW.out)
      clear hK K
      try simp only [Act.put, List.setIfInBounds_toArray, List.set_cons_zero, List.set_cons_succ]
      refine wpAnyH_take (i := 5) (oi := ?o5x12) (v := ?v5x12) ?hi5x12 (by kernel_rfl) (by kernel_rfl) (by kernel_rfl) ?hQ5x12 ?hy5x12 (by assumption) ?rest5x12
      case hi5x12 => (simp only [List.getElem?_toArray, List.getElem?_cons_succ, List.getElem?_cons_zero]; rfl)
      case hQ5x12 => exact fun _ _ _ h => h
      case hy5x12 => (refine Or.inl ⟨by rfl, ?_⟩; intro W hSw; (try dsimp only at hSw); go_simp; (try with_reducible rfl))
      try simp only [Act.put, List.setIfInBounds_toArray, List.set_cons_zero, List.set_cons_succ]
      refine wpAnyH_done (by kernel_rfl) ?_ _
      go_wp2_with fail
      go_ret
      exact ⟨⟨_, rfl⟩, HK0.out.trans HKW.out⟩
end Go.Proofs.YtoociokhldakbaaGreat
