import Derived.Test.YtikjdibngkcpkaaBk
import Derived.Test.YtikjdibngkcpkaaLa
namespace Go.Proofs.Ytikjdibngkcpkaa
open Go.ChangeShapes Go.WideShapes Go.ChangeAt Go.RowKit
set_option linter.unusedVariables false
/-- the first row when i digits of it are turned -/
def og (x y : Int) (n i j : Nat) : Value := .int .u8 (((if j < i then pb (orI x y) (n - 1 - j) else pb x (n - 1 - j)) : Nat) : Int)
theorem og_set (x y : Int) (n i : Nat) : (fun j => if j = i then Value.int .u8 ((pb (orI x y) (n - 1 - i) : Nat) : Int) else og x y n i j) = og x y n (i + 1) := by
  funext j
  unfold og
  by_cases h : j = i
  · subst h
    rw [if_pos rfl, if_pos (by omega)]
  · rw [if_neg h]
    by_cases h2 : j < i
    · rw [if_pos h2, if_pos (by omega)]
    · rw [if_neg h2, if_neg (by omega)]
theorem BE.fits {l : List Nat} {z : Int} (h : BE l z.natAbs) (m : Nat) (hm : l.length ≤ m) : Fits m z := by
  apply fits_of_lt
  have h1 := Num.le_lt 256 (by omega) l.reverse (fun d hd => h.1.dig d hd)
  rw [h.2, List.length_reverse] at h1
  exact Nat.lt_of_lt_of_le h1 (Nat.pow_le_pow_right (by omega) hm)
set_option maxRecDepth 100000 in
set_option maxHeartbeats 4000000 in
theorem sOr_any (bx : Bool) (Ax : Option Addr) (nx cx : Nat) (x : Int) (yb : Bool) (Ay : Option Addr) (ny cy : Nat) (y : Int) (hxc : x.natAbs < Num.Cap) (hyc : y.natAbs < Num.Cap) (hrc : (orI x y).natAbs < Num.Cap) (w : World) (hx : SI w (.agg #[.bool bx, .slice Ax nx cx]) x) (hy : SI w (.agg #[.bool yb, .slice Ay ny cy]) y) :
    Calls Try.prog 26 #[.agg #[.bool bx, .slice Ax nx cx], .agg #[.bool yb, .slice Ay ny cy]] w (RetSI w (orI x y)) := by
  obtain ⟨hbx, lx, rfl, hsx, ux⟩ := hx.parts
  obtain ⟨hby, ly, rfl, hsy, uy⟩ := hy.parts
  clear hbx hby hsx hsy
  have lx1 := ux.len hxc
  have ly1 := uy.len hyc
  have hk0 : Kept w (((w.alloc (.cells #[.bool bx, .slice Ax lx.length cx] 24)).alloc (.cells #[.bool yb, .slice Ay ly.length cy] 24)).alloc (.cells #[.bool false, .slice none 0 0] 24)) := by go_grown
  have b1 : Blk (((w.alloc (.cells #[.bool bx, .slice Ax lx.length cx] 24)).alloc (.cells #[.bool yb, .slice Ay ly.length cy] 24)).alloc (.cells #[.bool false, .slice none 0 0] 24)) w.heap.size 24 #[.bool bx, .slice Ax lx.length cx] :=
    ((Blk.new w _ _).below ((Below.refl _ _).alloc (Nat.le_refl _) _)).below ((Below.refl _ _).alloc (Nat.le_refl _) _)
  have b2 : Blk (((w.alloc (.cells #[.bool bx, .slice Ax lx.length cx] 24)).alloc (.cells #[.bool yb, .slice Ay ly.length cy] 24)).alloc (.cells #[.bool false, .slice none 0 0] 24)) (w.heap.size + 1) 24 #[.bool yb, .slice Ay ly.length cy] := by
    have := (Blk.new (w.alloc (.cells #[.bool bx, .slice Ax lx.length cx] 24)) 24 #[.bool yb, .slice Ay ly.length cy]).below ((Below.refl _ _).alloc (Nat.le_refl _) (.cells #[.bool false, .slice none 0 0] 24))
    rwa [World.size_alloc] at this
  have b3 : Blk (((w.alloc (.cells #[.bool bx, .slice Ax lx.length cx] 24)).alloc (.cells #[.bool yb, .slice Ay ly.length cy] 24)).alloc (.cells #[.bool false, .slice none 0 0] 24)) (w.heap.size + 1 + 1) 24 #[.bool false, .slice none 0 0] := by
    have := Blk.new ((w.alloc (.cells #[.bool bx, .slice Ax lx.length cx] 24)).alloc (.cells #[.bool yb, .slice Ay ly.length cy] 24)) 24 #[.bool false, .slice none 0 0]
    rwa [World.size_alloc, World.size_alloc] at this
  have hmax : max (lx.length : Int) (ly.length : Int) = ((max lx.length ly.length : Nat) : Int) := by omega
  have hmax2 : (if (lx.length : Int) ≤ (ly.length : Int) then (ly.length : Int) else (lx.length : Int)) = ((max lx.length ly.length : Nat) : Int) := by split <;> omega
  have hmax3 : (if (ly.length : Int) < (lx.length : Int) then (lx.length : Int) else (ly.length : Int)) = ((max lx.length ly.length : Nat) : Int) := by split <;> omega
  have hmax4 : (if (lx.length : Int) < (ly.length : Int) then (ly.length : Int) else (lx.length : Int)) = ((max lx.length ly.length : Nat) : Int) := by split <;> omega
  have hlm : lx.length ≤ max lx.length ly.length ∧ ly.length ≤ max lx.length ly.length ∧ max lx.length ly.length ≤ 4096 := by omega
  have HPX : Hid (∀ W : World, Kept (((w.alloc (.cells #[.bool bx, .slice Ax lx.length cx] 24)).alloc (.cells #[.bool yb, .slice Ay ly.length cy] 24)).alloc (.cells #[.bool false, .slice none 0 0] 24)) W → Calls Try.prog 48 #[.agg #[.bool bx, .slice Ax lx.length cx], .int .i64 (((max lx.length ly.length : Nat) : Int) + 1)] W (RetRow W (max lx.length ly.length + 1) (fun j => .int .u8 ((pb x (max lx.length ly.length + 1 - 1 - j) : Nat) : Int)))) := Lib.hid fun W hk => by
    have := plain_any bx Ax lx.length cx (max lx.length ly.length + 1) x hxc (by omega) (by omega) (by omega) W (hx.below (hk0.trans hk))
    rwa [show ((max lx.length ly.length + 1 : Nat) : Int) = ((max lx.length ly.length : Nat) : Int) + 1 by omega] at this
  have HPY : Hid (∀ W : World, Kept (((w.alloc (.cells #[.bool bx, .slice Ax lx.length cx] 24)).alloc (.cells #[.bool yb, .slice Ay ly.length cy] 24)).alloc (.cells #[.bool false, .slice none 0 0] 24)) W → Calls Try.prog 48 #[.agg #[.bool yb, .slice Ay ly.length cy], .int .i64 (((max lx.length ly.length : Nat) : Int) + 1)] W (RetRow W (max lx.length ly.length + 1) (fun j => .int .u8 ((pb y (max lx.length ly.length + 1 - 1 - j) : Nat) : Int)))) := Lib.hid fun W hk => by
    have := plain_any yb Ay ly.length cy (max lx.length ly.length + 1) y hyc (by omega) (by omega) (by omega) W (hy.below (hk0.trans hk))
    rwa [show ((max lx.length ly.length + 1 : Nat) : Int) = ((max lx.length ly.length : Nat) : Int) + 1 by omega] at this
  have HFI : Hid (Fits (max lx.length ly.length) (orI x y)) := Lib.hid (fits_or (ux.fits _ hlm.1) (uy.fits _ hlm.2.1))
  have HRC := Lib.hid hrc
  have hN : max lx.length ly.length ≤ 1000000 := by omega
  generalize max lx.length ly.length = N at *
  have c0 := b1.cell 0
  have c1 := b1.cell 1
  have c2 := b2.cell 0
  have c3 := b2.cell 1
  simp only [List.getElem?_toArray, List.getElem?_cons_zero, List.getElem?_cons_succ] at c0 c1 c2 c3
  have HB1 := Lib.hid b1
  have HB2 := Lib.hid b2
  have HB3 := Lib.hid b3
  have HK0 := Lib.hid hk0
  have hsz0 : (((w.alloc (.cells #[.bool bx, .slice Ax lx.length cx] 24)).alloc (.cells #[.bool yb, .slice Ay ly.length cy] 24)).alloc (.cells #[.bool false, .slice none 0 0] 24)).heap.size = w.heap.size + 1 + 1 + 1 := by simp only [World.size_alloc]
  clear hx hy ux uy b1 b2 b3 hk0 hlm hxc hyc hrc lx1 ly1
  go_enter Try.func26, Try.ntmps26
  go_wp2_with fail
  generalize (((w.alloc (.cells #[.bool bx, .slice Ax lx.length cx] 24)).alloc (.cells #[.bool yb, .slice Ay ly.length cy] 24)).alloc (.cells #[.bool false, .slice none 0 0] 24)) = W0 at *
  have KEEP : Hid (∀ X : World, Kept W0 X → X.cell? ⟨w.heap.size, 0, none⟩ = some (.bool bx) ∧ X.cell? ⟨w.heap.size, 1, none⟩ = some (.slice Ax lx.length cx) ∧ X.cell? ⟨w.heap.size + 1, 0, none⟩ = some (.bool yb) ∧ X.cell? ⟨w.heap.size + 1, 1, none⟩ = some (.slice Ay ly.length cy)) := Lib.hid fun X h =>
    ⟨(HB1.out.below h).cell 0, (HB1.out.below h).cell 1, (HB2.out.below h).cell 0, (HB2.out.below h).cell 1⟩
  go_region_held3 (fun X : World => X.cell? ⟨w.heap.size, 0, none⟩ = some (.bool bx) ∧ X.cell? ⟨w.heap.size, 1, none⟩ = some (.slice Ax lx.length cx) ∧ X.cell? ⟨w.heap.size + 1, 0, none⟩ = some (.bool yb) ∧ X.cell? ⟨w.heap.size + 1, 1, none⟩ = some (.slice Ay ly.length cy))
    (exact KEEP.out _ (by go_grown))
    (first
      | (go_at_call 48
         (with_reducible refine Calls.mono (HPX.out _ ?_) ?_)
         · go_grown
         rintro e w1 ⟨ga, rfl, hga, hr1, hk1⟩
         have hK1 : Kept W0 w1 := ⟨hk1.os, hk1.tape, hk1.output, hk1.size, hk1.block⟩
         have hz1 := hK1.size
         have HR1 := Lib.hid hr1
         clear hr1)
      | (go_at_call 48
         (with_reducible refine Calls.mono (HPY.out _ ?_) ?_)
         · go_grown
         rintro e w2 ⟨gb, rfl, hgb, hr2, hk2⟩
         have hK2 : Kept W0 w2 := hK1.trans hk2
         have hz2 := hK2.size
         have HR2 := Lib.hid hr2
         have HR12 := Lib.hid (row_kept HR1.out hk2)
         clear hr2))
  have hga0 : W0.heap.size ≤ ga := hga
  have hab : ga < gb := Nat.lt_of_lt_of_le HR1.out.lt hgb
  have HK2 := Lib.hid hK2
  clear hk1 hk2 hga hgb c0 c1 c2 c3 hK1 hK2 HR1
  go_wp2_with fail
  go_loopw [8] (fun iv wr => ∃ i : Nat, iv = .int .i64 i ∧ i ≤ N + 1 ∧ wr.rowIs ga 5 (N + 1) (og x y (N + 1) i) ∧ wr.rowIs gb 5 (N + 1) (fun j => .int .u8 ((pb y (N + 1 - 1 - j) : Nat) : Int)) ∧ Kept W0 wr) (fun iv _ => N + 1 - (intOf iv).toNat)
  case atStart => exact ⟨0, rfl, Nat.zero_le _, HR12.out.congr (fun j hj => by unfold og; rw [if_neg (by omega)]), HR2.out, HK2.out⟩
  case round =>
    obtain ⟨i, rfl, hi, hra, hrb, hbr⟩ := hrel
    by_cases hlt : i < N + 1
    · have hca := hra.cell (i := i) hlt
      have hfa := hra.frozen i
      have hcb := hrb.cell (i := i) hlt
      have hng : og x y (N + 1) i i = .int .u8 ((pb x (N + 1 - 1 - i) : Nat) : Int) := by unfold og; rw [if_neg (by omega)]
      rw [hng] at hca
      have hset := fun D : World => fun hd : D.rowIs ga 5 (N + 1) (og x y (N + 1) i) => hd.set i (.int .u8 ((pb (orI x y) (N + 1 - 1 - i) : Nat) : Int))
      simp only [og_set] at hset
      have HSET := Lib.hid (hset wr.drew (rowIs_drewN hra 1))
      have HRB : Hid ((wr.drew.setCell ⟨ga, i, none⟩ (.int .u8 ((pb (orI x y) (N + 1 - 1 - i) : Nat) : Int))).rowIs gb 5 (N + 1) (fun j => .int .u8 ((pb y (N + 1 - 1 - j) : Nat) : Int))) := Lib.hid (World.rowIs.setOther (w := wr.drew) hrb (by simp only; omega) _)
      have HBR : Hid (Kept W0 (wr.drew.setCell ⟨ga, i, none⟩ (.int .u8 ((pb (orI x y) (N + 1 - 1 - i) : Nat) : Int)))) := Lib.hid (Below.setCell (p := ⟨ga, i, none⟩) (show Kept W0 wr.drew from ⟨hbr.os, hbr.tape, hbr.output, hbr.size, hbr.block⟩) hga0 _)
      have hbit := Lib.hid (u8_or_nat _ _ (pb_lt x (N + 1 - 1 - i)) (pb_lt y (N + 1 - 1 - i)))
      rw [pb_or] at hbit
      have i0 : (0 : Int) ≤ (i : Int) := by omega
      have i1 : (i : Int) < (N : Int) + 1 := by omega
      clear hset hra hrb hbr hng
      generalize pb x (N + 1 - 1 - i) = p at *
      generalize pb y (N + 1 - 1 - i) = q at *
      generalize pb (orI x y) (N + 1 - 1 - i) = r at *
      go_wp2_with fail
      refine wp_region_lastL _ _ _ (by simp only [List.dropLast]; rfl) (by simp only [List.getLast?_cons_cons, List.getLast?_singleton]; rfl) (fun X : World => X.cell? ⟨ga, i, none⟩ = some (.int .u8 (p : Int)) ∧ X.cell? ⟨gb, i, none⟩ = some (.int .u8 (q : Int))) (by kernel_rfl) (by kernel_rfl) (⟨hca, hcb⟩) (fun hHeld => ?_)
      refine wpAnyH_take (i := 0) (oi := ?o0) (v := ?v0) ?hi0 (by kernel_rfl) (by kernel_rfl) (by kernel_rfl) ?hQ0 ?hy0 (by assumption) ?rest0
      case hi0 => (simp only [List.getElem?_toArray, List.getElem?_cons_zero]; rfl)
      case hQ0 => exact fun _ _ _ h => h
      case hy0 => (refine Or.inl ⟨by rfl, ?_⟩; intro W hSw; (try dsimp only at hSw); go_simp; (try with_reducible rfl))
      try simp only [Act.put, List.setIfInBounds_toArray, List.set_cons_zero, List.set_cons_succ]
      refine wpAnyH_take (i := 1) (oi := ?o1) (v := ?v1) ?hi1 (by kernel_rfl) (by kernel_rfl) (by kernel_rfl) ?hQ1 ?hy1 (by assumption) ?rest1
      case hi1 => (simp only [List.getElem?_toArray, List.getElem?_cons_succ, List.getElem?_cons_zero]; rfl)
      case hQ1 => exact fun _ _ _ h => h
      case hy1 => (refine Or.inl ⟨by rfl, ?_⟩; intro W hSw; (try dsimp only at hSw); go_simp; (try with_reducible rfl))
      try simp only [Act.put, List.setIfInBounds_toArray, List.set_cons_zero, List.set_cons_succ]
      refine wpAnyH_take (i := 2) (oi := ?o2) (v := ?v2) ?hi2 (by kernel_rfl) (by kernel_rfl) (by kernel_rfl) ?hQ2 ?hy2 (by assumption) ?rest2
      case hi2 => (simp only [List.getElem?_toArray, List.getElem?_cons_succ, List.getElem?_cons_zero]; rfl)
      case hQ2 => exact fun _ _ _ h => h
      case hy2 => (refine Or.inl ⟨by rfl, ?_⟩; intro W hSw; (try dsimp only at hSw); go_simp; (try with_reducible rfl))
      try simp only [Act.put, List.setIfInBounds_toArray, List.set_cons_zero, List.set_cons_succ]
      refine wpAnyH_take (i := 3) (oi := ?o3) (v := ?v3) ?hi3 (by kernel_rfl) (by kernel_rfl) (by kernel_rfl) ?hQ3 ?hy3 (by assumption) ?rest3
      case hi3 => (simp only [List.getElem?_toArray, List.getElem?_cons_succ, List.getElem?_cons_zero]; rfl)
      case hQ3 => exact fun _ _ _ h => h
      case hy3 => (refine Or.inl ⟨by rfl, ?_⟩; intro W hSw; (try dsimp only at hSw); go_simp; (try with_reducible rfl))
      try simp only [Act.put, List.setIfInBounds_toArray, List.set_cons_zero, List.set_cons_succ]
      refine wpAnyH_take (i := 4) (oi := ?o4) (v := ?v4) ?hi4 (by kernel_rfl) (by kernel_rfl) (by kernel_rfl) ?hQ4 ?hy4 (by assumption) ?rest4
      case hi4 => (simp only [List.getElem?_toArray, List.getElem?_cons_succ, List.getElem?_cons_zero]; rfl)
      case hQ4 => exact fun _ _ _ h => h
      case hy4 => (refine Or.inl ⟨by rfl, ?_⟩; intro W hSw; (try dsimp only at hSw); go_simp; (try with_reducible rfl))
      try simp only [Act.put, List.setIfInBounds_toArray, List.set_cons_zero, List.set_cons_succ]
      refine wpAnyH_take (i := 5) (oi := ?o5) (v := ?v5) ?hi5 (by kernel_rfl) (by kernel_rfl) (by kernel_rfl) ?hQ5 ?hy5 (by assumption) ?rest5
      case hi5 => (simp only [List.getElem?_toArray, List.getElem?_cons_succ, List.getElem?_cons_zero]; rfl)
      case hQ5 => exact fun _ _ _ h => h
      case hy5 => (refine Or.inl ⟨by rfl, ?_⟩; intro W hSw; (try dsimp only at hSw); go_simp; (try with_reducible rfl))
      try simp only [Act.put, List.setIfInBounds_toArray, List.set_cons_zero, List.set_cons_succ]
      refine wpAnyH_take (i := 6) (oi := ?o6) (v := ?v6) ?hi6 (by kernel_rfl) (by kernel_rfl) (by kernel_rfl) ?hQ6 ?hy6 (by assumption) ?rest6
      case hi6 => (simp only [List.getElem?_toArray, List.getElem?_cons_succ, List.getElem?_cons_zero]; rfl)
      case hQ6 => exact fun _ _ _ h => h
      case hy6 => (refine Or.inl ⟨by rfl, ?_⟩; intro W hSw; (try dsimp only at hSw); go_simp; (try with_reducible rfl))
      try simp only [Act.put, List.setIfInBounds_toArray, List.set_cons_zero, List.set_cons_succ]
      refine wpAnyH_take (i := 7) (oi := ?o7) (v := ?v7) ?hi7 (by kernel_rfl) (by kernel_rfl) (by kernel_rfl) ?hQ7 ?hy7 (by assumption) ?rest7
      case hi7 => (simp only [List.getElem?_toArray, List.getElem?_cons_succ, List.getElem?_cons_zero]; rfl)
      case hQ7 => exact fun _ _ _ h => h
      case hy7 => (refine Or.inl ⟨by rfl, ?_⟩; intro W hSw; (try dsimp only at hSw); go_simp; (try with_reducible rfl))
      try simp only [Act.put, List.setIfInBounds_toArray, List.set_cons_zero, List.set_cons_succ]
      refine wpAnyH_take (i := 8) (oi := ?o8) (v := ?v8) ?hi8 (by kernel_rfl) (by kernel_rfl) (by kernel_rfl) ?hQ8 ?hy8 (by assumption) ?rest8
      case hi8 => (simp only [List.getElem?_toArray, List.getElem?_cons_succ, List.getElem?_cons_zero]; rfl)
      case hQ8 => exact fun _ _ _ h => h
      case hy8 => (refine Or.inl ⟨by rfl, ?_⟩; intro W hSw; (try dsimp only at hSw); go_simp; (try with_reducible rfl))
      try simp only [Act.put, List.setIfInBounds_toArray, List.set_cons_zero, List.set_cons_succ]
      refine wpAnyH_take (i := 9) (oi := ?o9) (v := ?v9) ?hi9 (by kernel_rfl) (by kernel_rfl) (by kernel_rfl) ?hQ9 ?hy9 (by assumption) ?rest9
      case hi9 => (simp only [List.getElem?_toArray, List.getElem?_cons_succ, List.getElem?_cons_zero]; rfl)
      case hQ9 => exact fun _ _ _ h => h
      case hy9 => (refine Or.inl ⟨by rfl, ?_⟩; intro W hSw; (try dsimp only at hSw); go_simp; (try with_reducible rfl))
      try simp only [Act.put, List.setIfInBounds_toArray, List.set_cons_zero, List.set_cons_succ]
      refine wpAnyH_done (by kernel_rfl) ?_ _
      simp only [lastQ]
      simp only [hbit.out]
      go_wp2_with fail
      exact ⟨⟨i + 1, by go_num, by omega, HSET.out, HRB.out, HBR.out⟩, by simp [intOf]; omega⟩
    · obtain rfl : i = N + 1 := by omega
      have hSl : Sl wr (some ⟨ga, 0, none⟩) (N + 1) (by8 (pbRow (orI x y) (N + 1))) := Sl_of_row hra (fun j u hu => by
        have hj : j < N + 1 := by
          have := (List.getElem?_eq_some_iff.1 hu).1
          simpa [by8_len, pbRow_len] using this
        unfold by8 at hu
        rw [List.getElem?_map, pbRow_get _ _ _ hj] at hu
        injection hu with hu
        rw [← hu, og, if_pos hj]) (by simp [by8_len, pbRow_len]) (by unfold maxLen; omega)
      have HBK := Lib.hid (back_any (some ⟨ga, 0, none⟩) (N + 1) N (orI x y) HRC.out HFI.out hN wr hSl)
      have HBR := Lib.hid hbr
      have HB := Lib.hid (HB3.out.below hbr)
      have n3 : ¬ ((N : Int) + 1 < (N : Int) + 1) := by omega
      have hzr := hbr.size
      clear hra hrb hbr hSl
      go_wp2_with fail
      refine (HBK.out).mono ?_
      rintro e w4 ⟨v4, rfl, hv4, hk4⟩
      have hz4 := hk4.size
      have H := Lib.hid (HB.out.below hk4)
      have HV4 := Lib.hid hv4
      obtain ⟨b4, A4, n5, c4, rfl⟩ := hv4.two
      have HK4 : Hid (Kept w w4) := Lib.hid ((HK0.out.trans HBR.out).trans hk4)
      clear hv4 hk4
      go_wp2_with (refine wpList_store_row rfl 24 (.tmp 4) (.tmp 39) rfl (w.heap.size + 1 + 1) _ rfl rfl 24 _ H.out info_SI rfl (by simp [Value.oneCell']) ?_)
      refine bodyPost_blk (cs := #[.bool b4, .slice A4 n5 c4]) rfl rfl (setRow_heap _ _ _ _ _ _ H.out) Try.underlying24 rfl (by exact info_SI) rfl ?_
      exact ⟨_, rfl, (HV4.out.setRow (k := w.heap.size + 1 + 1) (by omega) _).mono (by omega), below_setRow HK4.out (by omega) _⟩
end Go.Proofs.Ytikjdibngkcpkaa
