/- impl.IntMul: two integers of the laws multiplied. -/
import Derived.Test.YtikjdibngkcpkaaDoorM7
import Derived.Test.YtikjdibngkcpkaaDoorLa
import Derived.Deep.RegionHeld3
namespace Go.Proofs.YtikjdibngkcpkaaDoor
open Go.ChangeShapes Go.WideShapes Go.ChangeAt Go.RowKit
set_option linter.unusedVariables false
theorem StIf.ge {B : Nat} {w : World} {x z : Int} {p : Option Addr} (h : StIf B w (.agg #[.int .i64 x, .pointer p]) z) : ∀ g, p = some ⟨g, 0, none⟩ → B ≤ g := fun g e => by
  subst e; rcases h with ⟨e, _⟩ | ⟨g', e, hb, _⟩
  · injection e with e; injection e with e; injection e with _ e; injection e with e _; injection e with e; cases e
  · injection e with e; injection e with e; injection e with _ e; injection e with e _; injection e with e; injection e with e; injection e with e; subst e; exact hb
set_option maxRecDepth 100000 in
set_option maxHeartbeats 2000000 in
theorem IntMul_any (v u : Value) (x y : Int) (hX : x.natAbs < Num.Cap) (hY : y.natAbs < Num.Cap) (hX9 : x.natAbs < Num.B64 ^ 39) (hY9 : y.natAbs < Num.B64 ^ 39) (hr : (x * y).natAbs < Num.Cap) (w : World) (hgl : w.cell? ⟨2, 0, none⟩ = some (.int .i64 40)) (hv : VI w v x) (hu : VI w u y) :
    Calls Tryd.prog 6 #[v, u] w (RetVI w (x * y)) := by
  obtain ⟨A, c, l, rfl, hs, hl⟩ := hv
  obtain ⟨A2, c2, l2, rfl, hs2, hl2⟩ := hu
  have hk0 : Kept w (((w.alloc (.cells #[.int .i64 2, .bool (decide (x < 0)), .slice A l.length c, .int .u64 0, .string ⟨#[]⟩, .slice none 0 0] 28)).alloc (.cells #[.int .i64 2, .bool (decide (y < 0)), .slice A2 l2.length c2, .int .u64 0, .string ⟨#[]⟩, .slice none 0 0] 28)).alloc (.cells #[.int .i64 0, .bool false, .slice none 0 0, .int .u64 0, .string ⟨#[]⟩, .slice none 0 0] 28)) := by go_grown
  have b1 : Blk (((w.alloc (.cells #[.int .i64 2, .bool (decide (x < 0)), .slice A l.length c, .int .u64 0, .string ⟨#[]⟩, .slice none 0 0] 28)).alloc (.cells #[.int .i64 2, .bool (decide (y < 0)), .slice A2 l2.length c2, .int .u64 0, .string ⟨#[]⟩, .slice none 0 0] 28)).alloc (.cells #[.int .i64 0, .bool false, .slice none 0 0, .int .u64 0, .string ⟨#[]⟩, .slice none 0 0] 28)) w.heap.size 28 #[.int .i64 2, .bool (decide (x < 0)), .slice A l.length c, .int .u64 0, .string ⟨#[]⟩, .slice none 0 0] :=
    ((Blk.new w _ _).below ((Below.refl _ _).alloc (Nat.le_refl _) _)).below ((Below.refl _ _).alloc (Nat.le_refl _) _)
  have b2 : Blk (((w.alloc (.cells #[.int .i64 2, .bool (decide (x < 0)), .slice A l.length c, .int .u64 0, .string ⟨#[]⟩, .slice none 0 0] 28)).alloc (.cells #[.int .i64 2, .bool (decide (y < 0)), .slice A2 l2.length c2, .int .u64 0, .string ⟨#[]⟩, .slice none 0 0] 28)).alloc (.cells #[.int .i64 0, .bool false, .slice none 0 0, .int .u64 0, .string ⟨#[]⟩, .slice none 0 0] 28)) (w.heap.size + 1) 28 #[.int .i64 2, .bool (decide (y < 0)), .slice A2 l2.length c2, .int .u64 0, .string ⟨#[]⟩, .slice none 0 0] := by
    have := (Blk.new (w.alloc (.cells #[.int .i64 2, .bool (decide (x < 0)), .slice A l.length c, .int .u64 0, .string ⟨#[]⟩, .slice none 0 0] 28)) 28 #[.int .i64 2, .bool (decide (y < 0)), .slice A2 l2.length c2, .int .u64 0, .string ⟨#[]⟩, .slice none 0 0]).below ((Below.refl _ _).alloc (Nat.le_refl _) (.cells #[.int .i64 0, .bool false, .slice none 0 0, .int .u64 0, .string ⟨#[]⟩, .slice none 0 0] 28))
    rwa [World.size_alloc] at this
  have b3 : Blk (((w.alloc (.cells #[.int .i64 2, .bool (decide (x < 0)), .slice A l.length c, .int .u64 0, .string ⟨#[]⟩, .slice none 0 0] 28)).alloc (.cells #[.int .i64 2, .bool (decide (y < 0)), .slice A2 l2.length c2, .int .u64 0, .string ⟨#[]⟩, .slice none 0 0] 28)).alloc (.cells #[.int .i64 0, .bool false, .slice none 0 0, .int .u64 0, .string ⟨#[]⟩, .slice none 0 0] 28)) (w.heap.size + 1 + 1) 28 #[.int .i64 0, .bool false, .slice none 0 0, .int .u64 0, .string ⟨#[]⟩, .slice none 0 0] := by
    have := Blk.new ((w.alloc (.cells #[.int .i64 2, .bool (decide (x < 0)), .slice A l.length c, .int .u64 0, .string ⟨#[]⟩, .slice none 0 0] 28)).alloc (.cells #[.int .i64 2, .bool (decide (y < 0)), .slice A2 l2.length c2, .int .u64 0, .string ⟨#[]⟩, .slice none 0 0] 28)) 28 #[.int .i64 0, .bool false, .slice none 0 0, .int .u64 0, .string ⟨#[]⟩, .slice none 0 0]
    rwa [World.size_alloc, World.size_alloc] at this
  have hV : VI (((w.alloc (.cells #[.int .i64 2, .bool (decide (x < 0)), .slice A l.length c, .int .u64 0, .string ⟨#[]⟩, .slice none 0 0] 28)).alloc (.cells #[.int .i64 2, .bool (decide (y < 0)), .slice A2 l2.length c2, .int .u64 0, .string ⟨#[]⟩, .slice none 0 0] 28)).alloc (.cells #[.int .i64 0, .bool false, .slice none 0 0, .int .u64 0, .string ⟨#[]⟩, .slice none 0 0] 28)) (.agg #[.int .i64 2, .bool (decide (x < 0)), .slice A l.length c, .int .u64 0, .string ⟨#[]⟩, .slice none 0 0]) x := ⟨A, c, l, rfl, hs.below hk0, hl⟩
  have hU : VI (((w.alloc (.cells #[.int .i64 2, .bool (decide (x < 0)), .slice A l.length c, .int .u64 0, .string ⟨#[]⟩, .slice none 0 0] 28)).alloc (.cells #[.int .i64 2, .bool (decide (y < 0)), .slice A2 l2.length c2, .int .u64 0, .string ⟨#[]⟩, .slice none 0 0] 28)).alloc (.cells #[.int .i64 0, .bool false, .slice none 0 0, .int .u64 0, .string ⟨#[]⟩, .slice none 0 0] 28)) (.agg #[.int .i64 2, .bool (decide (y < 0)), .slice A2 l2.length c2, .int .u64 0, .string ⟨#[]⟩, .slice none 0 0]) y := ⟨A2, c2, l2, rfl, hs2.below hk0, hl2⟩
  have HX := Lib.hid hX
  have HX9 := Lib.hid hX9
  have HY9 := Lib.hid hY9
  have HR := Lib.hid hr
  have HGL := Lib.hid hgl
  clear hX9 hY9 hr hgl
  have HY := Lib.hid hY
  clear hs hl hs2 hl2
  go_enter Tryd.func6, Tryd.ntmps6
  go_wp2_with fail
  generalize (((w.alloc (.cells #[.int .i64 2, .bool (decide (x < 0)), .slice A l.length c, .int .u64 0, .string ⟨#[]⟩, .slice none 0 0] 28)).alloc (.cells #[.int .i64 2, .bool (decide (y < 0)), .slice A2 l2.length c2, .int .u64 0, .string ⟨#[]⟩, .slice none 0 0] 28)).alloc (.cells #[.int .i64 0, .bool false, .slice none 0 0, .int .u64 0, .string ⟨#[]⟩, .slice none 0 0] 28)) = W0 at *
  have HK0 := Lib.hid hk0
  have HV := Lib.hid hV
  have HU := Lib.hid hU
  have B1 := Lib.hid b1
  have B2 := Lib.hid b2
  have B3 := Lib.hid b3
  have hz0 := hk0.size
  have l3 := b3.lt
  clear hV hU b1 b2 b3 hk0 hX hY
  refine wp_region_lastL _ _ _ (by simp only [List.dropLast]; rfl) (by simp only [List.getLast?_cons_cons, List.getLast?_singleton]; rfl) (fun X : World => Kept W0 X) (by kernel_rfl) (by kernel_rfl) (by go_grown) (fun hHeld => ?_)
  refine wpAnyH_take (i := 0) (oi := ?o0) (v := (.agg #[.int .i64 2, .bool (decide (x < 0)), .slice A l.length c, .int .u64 0, .string ⟨#[]⟩, .slice none 0 0])) ?hi0 (by kernel_rfl) (by kernel_rfl) (by kernel_rfl) ?hQ0 ?hy0 (by assumption) ?rest0
  case hi0 => (simp only [List.getElem?_toArray, List.getElem?_cons_zero]; rfl)
  case hQ0 => exact fun _ _ _ h => h
  case hy0 => exact yields_load_row (by rfl) 28 (.tmp 2) (by rfl) w.heap.size (by rfl) _ _ _ (fun X hX => B1.out.below hX) Tryd.underlying28 (by rfl) info_Val
  try simp only [Act.put, List.setIfInBounds_toArray, List.set_cons_zero, List.set_cons_succ]
  refine wpAnyH_take (i := 2) (oi := ?o2) (v := (.agg #[.int .i64 2, .bool (decide (y < 0)), .slice A2 l2.length c2, .int .u64 0, .string ⟨#[]⟩, .slice none 0 0])) ?hi2 (by kernel_rfl) (by kernel_rfl) (by kernel_rfl) ?hQ2 ?hy2 (by assumption) ?rest2
  case hi2 => (simp only [List.getElem?_toArray, List.getElem?_cons_succ, List.getElem?_cons_zero]; rfl)
  case hQ2 => exact fun _ _ _ h => h
  case hy2 => exact yields_load_row (by rfl) 28 (.tmp 3) (by rfl) (w.heap.size + 1) (by rfl) _ _ _ (fun X hX => B2.out.below hX) Tryd.underlying28 (by rfl) info_Val
  try simp only [Act.put, List.setIfInBounds_toArray, List.set_cons_zero, List.set_cons_succ]
  refine wpAnyH_ready (rs := [1]) (by kernel_rfl) (by simp) ?_
  refine (AllReadyH.cons rfl (fun K hK => ?_) AllReadyH.nil)
  go_simp
  (with_reducible refine Calls.mono (whole_any _ x HX.out _ (HV.out.below (by go_grown))) ?_)
  rintro e w1 ⟨v1, rfl, hs1, hk1⟩
  have hK1 : Kept W0 w1 := Below.trans (by go_grown) (hk1.mono (by go_size))
  have hz1 := hK1.size
  have HS1 := Lib.hid hs1.toStI
  have HT1 := Lib.hid hs1
  obtain ⟨x0, p0, rfl⟩ := hs1.two
  clear hs1 hk1
  refine hK.out _ _ ?_ (fun hHeld => ?_)
  · (go_grown)
  clear hK K
  try simp only [Act.put, List.setIfInBounds_toArray, List.set_cons_zero, List.set_cons_succ]
  refine wpAnyH_ready (rs := [3]) (by kernel_rfl) (by simp) ?_
  refine (AllReadyH.cons rfl (fun K hK => ?_) AllReadyH.nil)
  go_simp
  (with_reducible refine Calls.mono (whole_any _ y HY.out _ (HU.out.below (by go_grown))) ?_)
  rintro e w2 ⟨v2, rfl, hs2, hk2⟩
  have hK12 : Kept w1 w2 := hk2
  have hK2 : Kept W0 w2 := hK1.trans hk2
  have hz2 := hK2.size
  have HS2 := Lib.hid hs2.toStI
  have HT2 := Lib.hid hs2
  obtain ⟨x1, p1, rfl⟩ := hs2.two
  clear hs2 hk2
  refine hK.out _ _ ?_ (fun hHeld => ?_)
  · (go_grown)
  clear hK K
  try simp only [Act.put, List.setIfInBounds_toArray, List.set_cons_zero, List.set_cons_succ]
  refine wpAnyH_ready (rs := [4]) (by kernel_rfl) (by simp) ?_
  refine (AllReadyH.cons rfl (fun K hK => ?_) AllReadyH.nil)
  go_simp
  (with_reducible refine Calls.mono (iMul_any x0 x1 p0 p1 x y HX9.out HY9.out HR.out _ (HS1.out.below (by go_grown)) (HS2.out.below (by go_grown)) (fun g h e1 e2 => by have h1 := HS1.out.lt g e1; have h2 := HT2.out.ge h e2; omega) ?gl) ?_)
  case gl => exact ((HK0.out.trans hK2).cell (p := ⟨2, 0, none⟩) (block_lt_of_cell HGL.out)).trans HGL.out
  rintro e w3 ⟨v3, rfl, hs3, hk3⟩
  have hK3 : Kept W0 w3 := hK2.trans hk3
  have hz3 := hK3.size
  have HS3 := Lib.hid hs3.toStI
  clear hs3 hk3
  refine hK.out _ _ ?_ (fun hHeld => ?_)
  · (go_grown)
  clear hK K
  try simp only [Act.put, List.setIfInBounds_toArray, List.set_cons_zero, List.set_cons_succ]
  refine wpAnyH_ready (rs := [5]) (by kernel_rfl) (by simp) ?_
  refine (AllReadyH.cons rfl (fun K hK => ?_) AllReadyH.nil)
  go_simp
  (with_reducible refine Calls.mono (number_any _ (x * y) HR.out _ (HS3.out.below (by go_grown))) ?_)
  rintro e w4 ⟨v4, rfl, hs4, hk4⟩
  have hK4 : Kept W0 w4 := hK3.trans hk4
  have hz4 := hK4.size
  have B4 := Lib.hid (B3.out.below hK4)
  have HV4 := Lib.hid (hs4.mono (B' := w.heap.size + 1 + 1 + 1) (by omega))
  obtain ⟨A4, c4, l4, rfl, _⟩ := hs4
  refine hK.out _ _ ?_ (fun hHeld => ?_)
  · (go_grown)
  clear hK K
  try simp only [Act.put, List.setIfInBounds_toArray, List.set_cons_zero, List.set_cons_succ]
  refine wpAnyH_done (by kernel_rfl) ?_ _
  simp only [lastQ]
  refine wp_store_row 28 (.tmp 4) (.tmp 10) rfl (w.heap.size + 1 + 1) _ rfl rfl 28 _ B4.out info_Val rfl (by simp [Value.oneCell']) ?_
  go_wp2_with fail
  refine bodyPost_blk (cs := #[.int .i64 2, .bool (decide (x * y < 0)), .slice A4 l4.length c4, .int .u64 0, .string ⟨#[]⟩, .slice none 0 0]) rfl rfl (setRow_heap _ _ _ _ _ _ B4.out) Tryd.underlying28 rfl (by exact info_Val) rfl ?_
  exact ⟨_, rfl, (HV4.out.setRow (by omega) _).mono (by omega), below_setRow (HK0.out.trans hK4) (by omega) _⟩
end Go.Proofs.YtikjdibngkcpkaaDoor
