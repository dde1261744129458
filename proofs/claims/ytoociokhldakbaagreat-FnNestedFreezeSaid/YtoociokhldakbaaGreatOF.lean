/- Clean of a list, of a tuple. -/
import Derived.Test.YtoociokhldakbaaGreatOE
import Derived.OwnWalk
import Derived.Deep.DeepMust
import Derived.Deep.AppendLies
import Derived.Deep.RegionHeld3
import Derived.Orders
namespace Go.Proofs.YtoociokhldakbaaGreat
open Go.ChangeShapes Go.WideShapes Go.ChangeAt Go.RowKit
set_option linter.unusedVariables false
/-- Clean at depth D -/
abbrev ClP (D : Nat) : Prop := ∀ (x : Int) (v : Value) (w : World), RV w D x v → Calls Tryz.prog 14 #[v, .int .i64 (D : Int)] w (RetOG w D (knd x D))
set_option maxRecDepth 100000 in
set_option maxHeartbeats 2000000 in
theorem Clean_kids6 (d : Nat) (hd : d ≤ 100) (hC : ClP d) (x D : Int) (hD : D = (d : Int) + 1) (hk : knd x D = 6) (bv : Bool) (Av Kv : Option Addr) (lv : List Nat) (cv qv nv ev : Nat) (Tv : ByteArray) (w : World) (hn : nv ≤ 9223372036854775807) (hkv : RK w (d + 1) Kv nv) :
    Calls Tryz.prog 14 #[.agg #[.int .i64 x, .bool bv, .slice Av lv.length cv, .int .u64 (qv : Int), .string Tv, .slice Kv nv ev], .int .i64 D] w (RetOG w (d + 1) 6) := by
  obtain ⟨i0, hi0, hi1, hi2, hi3⟩ := info_grow
  have HI : Hid (Tryz.prog.info? 33 = some i0 ∧ i0.zero = some (.agg #[.int .i64 0, .bool false, .slice none 0 0, .int .u64 0, .string ⟨#[]⟩, .slice none 0 0]) ∧ i0.size = 6 ∧ i0.bytes = 88) := Lib.hid ⟨hi0, hi1, hi2, hi3⟩
  obtain ⟨W, hW⟩ : ∃ W, W = ((w.alloc (.cells #[.int .i64 x, .bool bv, .slice Av lv.length cv, .int .u64 (qv : Int), .string Tv, .slice Kv nv ev] 33)).alloc (.cells #[.int .i64 0, .bool false, .slice none 0 0, .int .u64 0, .string ⟨#[]⟩, .slice none 0 0] 33)) := ⟨_, rfl⟩
  have hz : W.heap.size = w.heap.size + 1 + 1 := by rw [hW]; simp
  obtain ⟨hk0, hbx, hbz⟩ := two_boxes w #[.int .i64 x, .bool bv, .slice Av lv.length cv, .int .u64 (qv : Int), .string Tv, .slice Kv nv ev] #[.int .i64 0, .bool false, .slice none 0 0, .int .u64 0, .string ⟨#[]⟩, .slice none 0 0] 33 33
  rw [← hW] at hk0 hbx hbz
  have HX := Lib.hid (hkv.below hk0)
  have HBX := Lib.hid hbx
  have HBZ := Lib.hid hbz
  have HK0 := Lib.hid hk0
  have HCL := Lib.hid hC
  have HZ := Lib.hid hz
  have ST : Hid (GW W (fun c => w.heap.size + 1 + 1 + 1 ≤ c) (w.heap.size + 1 + 1) 6 (W.alloc (.cells #[.int .i64 6, .bool false, .slice none 0 0, .int .u64 0, .string ⟨#[]⟩, .slice none 0 0] 33)) d 0 (.slice none 0 0)) := Lib.hid (by rw [← hz]; exact GW.start W _ 6 d (fun c hc => by omega))
  have hnI : (nv : Int) ≤ 9223372036854775807 := by omega
  have hDw : wrap64 (D - 1) = (d : Int) := by unfold wrap64; omega
  have hDw2 : IntKind.i64.wrap (D - 1) = (d : Int) := by rw [IntKind.wrap_i64]; omega
  have hD0 : ¬ D ≤ 0 := by omega
  have hD1 : 0 < D := by omega
  have e : (wrap64 (x.tmod 10 + 10)).tmod 10 = 6 := by
    rcases knd_ways hk with ⟨h1, _⟩ | ⟨h1, _⟩ | ⟨_, e⟩
    · omega
    · omega
    · exact e
  clear hi0 hi1 hi2 hi3 hkv hk0 hbx hbz hC hz hD hk hd hn
  subst hW
  go_enter Tryz.func14, Tryz.ntmps14
  go_wp2_with fail
  clear e
  generalize ((w.alloc (.cells #[.int .i64 x, .bool bv, .slice Av lv.length cv, .int .u64 (qv : Int), .string Tv, .slice Kv nv ev] 33)).alloc (.cells #[.int .i64 0, .bool false, .slice none 0 0, .int .u64 0, .string ⟨#[]⟩, .slice none 0 0] 33)) = W at *
  go_loopw [7] (fun iv wr => ∃ (i : Nat) (sv : Value), iv = .int .i64 (i : Int) ∧ i ≤ nv ∧ i ≤ 8 ∧ GW W (fun c => w.heap.size + 1 + 1 + 1 ≤ c) (w.heap.size + 1 + 1) 6 wr d i sv) (fun iv _ => 20 - (intOf iv).toNat)
  case atStart => exact ⟨0, _, rfl, by omega, by omega, ST.out⟩
  case round =>
    obtain ⟨i, sv, rfl, hi, hi8, hG⟩ := hrel
    have HG := Lib.hid hG
    have t5 := (HBX.out.below HG.out.1).cell 5
    have i0' : (0 : Int) ≤ (i : Int) := by omega
    by_cases hlt : i < nv ∧ i < 8
    · obtain ⟨g, oo, x', v', rfl, ha, ho⟩ := (HX.out.below HG.out.1) i hlt.1
      have hgl : g < w.heap.size + 1 + 1 + 1 := by
        obtain ⟨g', oo', _, _, eg, ha', _⟩ := HX.out i hlt.1
        injection eg with eg
        injection eg with eg
        subst eg
        have := ha'.lt
        have := HZ.out
        omega
      obtain ⟨u0, u1, u2, u3, u4, u5, rfl, h0, h1, h2, h3, h4, h5⟩ := ha
      have A0 := Lib.hid h0
      have A1 := Lib.hid h1
      have A2 := Lib.hid h2
      have A3 := Lib.hid h3
      have A4 := Lib.hid h4
      have A5 := Lib.hid h5
      have HGL : Hid (g < w.heap.size + 1 + 1 + 1) := Lib.hid hgl
      have HC5 : Hid (wr.cell? ⟨w.heap.size + 1 + 1, 5, none⟩ = some sv ∧ wr.cell? ⟨w.heap.size, 5, none⟩ = some (.slice (some ⟨g, oo, none⟩) nv ev)) := Lib.hid ⟨HG.out.2.1.cell 5, t5⟩
      have HO : Hid (RV wr d x' (.agg #[u0, u1, u2, u3, u4, u5])) := Lib.hid ho
      have i1 : (i : Int) < (nv : Int) := by omega
      have i8 : (i : Int) < 8 := by omega
      have HLT := Lib.hid hlt
      clear ho hG hlt h0 h1 h2 h3 h4 h5 hgl hi hi8
      go_wp2_with fail
      refine wp_region_lastL _ _ _ (by simp only [List.dropLast]; rfl) (by simp only [List.getLast?_cons_cons, List.getLast?_singleton]; rfl) (fun X : World => Same (w.heap.size + 1 + 1 + 1) wr X) (by kernel_rfl) (by kernel_rfl) (fun _ _ => rfl) (fun hHeld => ?_)
      refine wpAnyH_take (i := 0) (oi := ?o0x0) (v := ?v0x0) ?hi0x0 (by kernel_rfl) (by kernel_rfl) (by kernel_rfl) ?hQ0x0 ?hy0x0 hHeld ?rest0x0
      case hi0x0 => (simp only [List.getElem?_toArray, List.getElem?_cons_zero]; rfl)
      case hQ0x0 => exact fun _ _ _ h => h
      case hy0x0 => (refine Or.inl ⟨by rfl, ?_⟩; intro W hSw; (try dsimp only at hSw); go_simp; (try with_reducible rfl))
      try simp only [Act.put, List.setIfInBounds_toArray, List.set_cons_zero, List.set_cons_succ]
      refine wpAnyH_take (i := 1) (oi := ?o1x1) (v := ?v1x1) ?hi1x1 (by kernel_rfl) (by kernel_rfl) (by kernel_rfl) ?hQ1x1 ?hy1x1 hHeld ?rest1x1
      case hi1x1 => (simp only [List.getElem?_toArray, List.getElem?_cons_succ, List.getElem?_cons_zero]; rfl)
      case hQ1x1 => exact fun _ _ _ h => h
      case hy1x1 => (refine Or.inl ⟨by rfl, ?_⟩; intro W hSw; (try dsimp only at hSw); have s5 := hSw.cell (by dsimp only; omega) HC5.out.1; have t5 := hSw.cell (by dsimp only; omega) HC5.out.2; go_simp; (try with_reducible rfl))
      try simp only [Act.put, List.setIfInBounds_toArray, List.set_cons_zero, List.set_cons_succ]
      refine wpAnyH_take (i := 2) (oi := ?o2x2) (v := ?v2x2) ?hi2x2 (by kernel_rfl) (by kernel_rfl) (by kernel_rfl) ?hQ2x2 ?hy2x2 hHeld ?rest2x2
      case hi2x2 => (simp only [List.getElem?_toArray, List.getElem?_cons_succ, List.getElem?_cons_zero]; rfl)
      case hQ2x2 => exact fun _ _ _ h => h
      case hy2x2 => (refine Or.inl ⟨by rfl, ?_⟩; intro W hSw; (try dsimp only at hSw); go_simp; (try with_reducible rfl))
      try simp only [Act.put, List.setIfInBounds_toArray, List.set_cons_zero, List.set_cons_succ]
      refine wpAnyH_take (i := 3) (oi := ?o3x3) (v := ?v3x3) ?hi3x3 (by kernel_rfl) (by kernel_rfl) (by kernel_rfl) ?hQ3x3 ?hy3x3 hHeld ?rest3x3
      case hi3x3 => (simp only [List.getElem?_toArray, List.getElem?_cons_succ, List.getElem?_cons_zero]; rfl)
      case hQ3x3 => exact fun _ _ _ h => h
      case hy3x3 => (refine Or.inl ⟨by rfl, ?_⟩; intro W hSw; (try dsimp only at hSw); have s5 := hSw.cell (by dsimp only; omega) HC5.out.1; have t5 := hSw.cell (by dsimp only; omega) HC5.out.2; go_simp; (try with_reducible rfl))
      try simp only [Act.put, List.setIfInBounds_toArray, List.set_cons_zero, List.set_cons_succ]
      refine wpAnyH_take (i := 4) (oi := ?o4x4) (v := ?v4x4) ?hi4x4 (by kernel_rfl) (by kernel_rfl) (by kernel_rfl) ?hQ4x4 ?hy4x4 hHeld ?rest4x4
      case hi4x4 => (simp only [List.getElem?_toArray, List.getElem?_cons_succ, List.getElem?_cons_zero]; rfl)
      case hQ4x4 => exact fun _ _ _ h => h
      case hy4x4 => (refine Or.inl ⟨by rfl, ?_⟩; intro W hSw; (try dsimp only at hSw); go_simp; (try with_reducible rfl))
      try simp only [Act.put, List.setIfInBounds_toArray, List.set_cons_zero, List.set_cons_succ]
      refine wpAnyH_take (i := 5) (oi := ?o5x5) (v := ?v5x5) ?hi5x5 (by kernel_rfl) (by kernel_rfl) (by kernel_rfl) ?hQ5x5 ?hy5x5 hHeld ?rest5x5
      case hi5x5 => (simp only [List.getElem?_toArray, List.getElem?_cons_succ, List.getElem?_cons_zero]; rfl)
      case hQ5x5 => exact fun _ _ _ h => h
      case hy5x5 => (refine Or.inl ⟨by rfl, ?_⟩; intro W hSw; (try dsimp only at hSw); go_simp; (try with_reducible rfl))
      try simp only [Act.put, List.setIfInBounds_toArray, List.set_cons_zero, List.set_cons_succ]
      refine wpAnyH_take (i := 6) (oi := ?o6x6) (v := ?v6x6) ?hi6x6 (by kernel_rfl) (by kernel_rfl) (by kernel_rfl) ?hQ6x6 ?hy6x6 hHeld ?rest6x6
      case hi6x6 => (simp only [List.getElem?_toArray, List.getElem?_cons_succ, List.getElem?_cons_zero]; rfl)
      case hQ6x6 => exact fun _ _ _ h => h
      case hy6x6 => (refine Or.inl ⟨by rfl, ?_⟩; intro W hSw; (try dsimp only at hSw); have a0 := hSw.cell HGL.out A0.out; have a1 := hSw.cell HGL.out A1.out; have a2 := hSw.cell HGL.out A2.out; have a3 := hSw.cell HGL.out A3.out; have a4 := hSw.cell HGL.out A4.out; have a5 := hSw.cell HGL.out A5.out; go_simp; (try with_reducible rfl))
      try simp only [Act.put, List.setIfInBounds_toArray, List.set_cons_zero, List.set_cons_succ]
      refine wpAnyH_take (i := 7) (oi := ?o7x7) (v := ?v7x7) ?hi7x7 (by kernel_rfl) (by kernel_rfl) (by kernel_rfl) ?hQ7x7 ?hy7x7 hHeld ?rest7x7
      case hi7x7 => (simp only [List.getElem?_toArray, List.getElem?_cons_succ, List.getElem?_cons_zero]; rfl)
      case hQ7x7 => exact fun _ _ _ h => h
      case hy7x7 => (refine Or.inl ⟨by rfl, ?_⟩; intro W hSw; (try dsimp only at hSw); go_simp; (try with_reducible rfl))
      try simp only [Act.put, List.setIfInBounds_toArray, List.set_cons_zero, List.set_cons_succ]
      refine wpAnyH_take (i := 8) (oi := ?o8x8) (v := ?v8x8) ?hi8x8 (by kernel_rfl) (by kernel_rfl) (by kernel_rfl) ?hQ8x8 ?hy8x8 hHeld ?rest8x8
      case hi8x8 => (simp only [List.getElem?_toArray, List.getElem?_cons_succ, List.getElem?_cons_zero]; rfl)
      case hQ8x8 => exact fun _ _ _ h => h
      case hy8x8 => (refine Or.inl ⟨by rfl, ?_⟩; intro W hSw; (try dsimp only at hSw); go_simp; (try with_reducible rfl))
      try simp only [Act.put, List.setIfInBounds_toArray, List.set_cons_zero, List.set_cons_succ]
      refine wpAnyH_ready (rs := [9]) (by kernel_rfl) (by simp) ?_
      refine (AllReadyH.cons rfl (fun K hK => ?_) AllReadyH.nil)
      go_simp
      (with_reducible refine Calls.mono (HCL.out x' _ _ (HO.out.below (by go_grown))) ?_)
      rintro e w3 ⟨⟨v3, rfl, hv3⟩, hk3⟩
      have hk3a : Kept wr w3 := ⟨hk3.os, hk3.tape, hk3.output, hk3.size, hk3.block⟩
      generalize hkk : knd x' (d : Int) = kk at hv3
      clear hkk
      have HV3 := Lib.hid hv3
      have HK3 := Lib.hid hk3a
      have HS3 : Hid (Same (w.heap.size + 1 + 1 + 1) wr w3) := Lib.hid (Same.of_kept hk3a (by have := HG.out.2.1.lt; omega))
      obtain ⟨b3, B3, c3, l3, q3, T3, K3, n3, e3, rfl, _⟩ := hv3
      clear hk3 hk3a
      refine hK.out _ _ ?_ (fun hHeld => ?_)
      · (exact HS3.out)
      clear hK K
      try simp only [Act.put, List.setIfInBounds_toArray, List.set_cons_zero, List.set_cons_succ]
      refine wpAnyH_ready (rs := [10]) (by kernel_rfl) (by simp) ?_
      refine (AllReadyH.cons rfl (fun K hK => ?_) AllReadyH.nil)
      go_simp
      refine hK.out _ _ ?_ (fun hHeld => ?_)
      · (exact HS3.out.trans (Same.of_kept ((Below.refl _ w3).alloc (Nat.le_refl _) _) (by have := HG.out.2.1.lt; have := HK3.out.size; omega)))
      clear hK K
      try simp only [Act.put, List.setIfInBounds_toArray, List.set_cons_zero, List.set_cons_succ]
      have HXR := Lib.hid HG.out.2.2.1.choose_spec.1
      have hk4 : Kept wr (w3.alloc (.cells #[.int .i64 kk, .bool b3, .slice B3 l3.length c3, .int .u64 (q3 : Int), .string T3, .slice K3 n3 e3] 33)) := HK3.out.trans ((Below.refl _ w3).alloc (Nat.le_refl _) _)
      have HG4 := Lib.hid (HG.out.below hk4)
      obtain ⟨xs, hx4, hv4⟩ := HG4.out.2.2.1
      have HX4 := Lib.hid hx4
      have HV4 := Lib.hid hv4
      have HS4 : Hid (Same (w.heap.size + 1 + 1 + 1) wr (w3.alloc (.cells #[.int .i64 kk, .bool b3, .slice B3 l3.length c3, .int .u64 (q3 : Int), .string T3, .slice K3 n3 e3] 33))) := Lib.hid (Same.of_kept hk4 (by have := HG.out.2.1.lt; omega))
      have HNW : Hid (∀ j, j < 1 → ∃ k v, Six [.int .i64 kk, .bool b3, .slice B3 l3.length c3, .int .u64 (q3 : Int), .string T3, .slice K3 n3 e3] (j * 6) v ∧ OG (fun c => (fun c => w.heap.size + 1 + 1 + 1 ≤ c) c ∧ sv.ownBlock ≠ some c) (w3.alloc (.cells #[.int .i64 kk, .bool b3, .slice B3 l3.length c3, .int .u64 (q3 : Int), .string T3, .slice K3 n3 e3] 33)) d k v) := Lib.hid fun j hj => by
        obtain rfl : j = 0 := by omega
        refine ⟨kk, _, six_lit _ _ _ _ _ _, ?_⟩
        refine HV3.out.apart (fun c hc hl => ?_) ((Below.refl _ w3).alloc (Nat.le_refl _) _)
        have hlt := HXR.out.lt
        have hzz := HG.out.2.1.lt
        have hc' : wr.heap.size ≤ c := hc
        exact ⟨by omega, fun e => by have := (hlt c e).2; omega⟩
      have HLN : Hid (i < 16) := Lib.hid (by have := HLT.out; omega)
      clear hk4 hx4 hv4
      refine wpAnyH_ready (rs := [11]) (by kernel_rfl) (by simp) ?_
      refine (AllReadyH.cons rfl (fun K hK => ?_) AllReadyH.nil)
      refine step_append_lies _ rfl (.tmp 76) (.tmp 85) 31 rfl (w.heap.size + 1 + 1 + 1) 33 i0 (.agg #[.int .i64 0, .bool false, .slice none 0 0, .int .u64 0, .string ⟨#[]⟩, .slice none 0 0]) 6 88 Tryz.underlying31 HI.out.1 HI.out.2.1 HI.out.2.2.1 HI.out.2.2.2 rfl (by omega) _ i _ rfl HX4.out ⟨w3.heap.size, 0, none⟩ 1 1 [.int .i64 kk, .bool b3, .slice B3 l3.length c3, .int .u64 (q3 : Int), .string T3, .slice K3 n3 e3] rfl rfl (cells_new w3 _ _) (by intro u hu; simp at hu; rcases hu with rfl | rfl | rfl | rfl | rfl | rfl <;> rfl) (by omega) (by simp only [maxLen]; have := HLN.out; omega) (by have := HLN.out; omega) (by have := HG4.out.2.1.lt; omega) _ rfl ?_
      intro g2 cap2 w5 ho2 hg2 hat hgl
      have HST5 := Lib.hid (GW.step HG4.out HX4.out HV4.out ho2 hg2 hat HNW.out)
      clear ho2 hg2 hat hgl
      refine hK.out _ _ ?_ (fun hHeld => ?_)
      · (exact HS4.out.trans (HST5.out.2.2.1))
      clear hK K
      try simp only [Act.put, List.setIfInBounds_toArray]
      refine wpAnyH_take (i := 12) (oi := ?o12x9) (v := ?v12x9) ?hi12x9 (by kernel_rfl) (by kernel_rfl) (by kernel_rfl) ?hQ12x9 ?hy12x9 hHeld ?rest12x9
      case hi12x9 => (simp only [List.getElem?_toArray, List.getElem?_cons_succ, List.getElem?_cons_zero]; rfl)
      case hQ12x9 => exact fun _ _ _ h => h
      case hy12x9 => (refine Or.inl ⟨by rfl, ?_⟩; intro W hSw; (try dsimp only at hSw); go_simp; (try with_reducible rfl))
      try simp only [Act.put]
      refine wpAnyH_done (by kernel_rfl) ?_ _
      simp only [lastQ]
      have d5 := HST5.out.1
      have dz := HST5.out.2.1
      have HG5 := Lib.hid HST5.out.2.2.2
      clear hHeld
      go_wp2_with fail
      exact ⟨⟨i + 1, _, by go_num, by have := HLT.out; omega, by have := HLT.out; omega, HG5.out⟩, by have := HLN.out; simp [intOf]; omega⟩
    · have HNO := Lib.hid hlt
      have H8 := Lib.hid hi8
      obtain ⟨K, c, rfl, hv⟩ := HG.out.value (by decide) (by decide) (by omega) (fun h => by omega)
      have HVV := Lib.hid hv
      have hst := run_storeVar_row (P := Tryz.prog) wr (w.heap.size + 1) 33 33 _ #[.int .i64 6, .bool false, .slice none 0 0, .int .u64 0, .string ⟨#[]⟩, .slice K i c] (HBZ.out.below HG.out.1) info_Vl rfl (by simp [Value.oneCell'])
      simp [go_sem] at hst
      obtain ⟨c0, c1, c2, c3, c4, c5⟩ : wr.cell? ⟨w.heap.size + 1 + 1, 0, none⟩ = some (.int .i64 6) ∧ wr.cell? ⟨w.heap.size + 1 + 1, 1, none⟩ = some (.bool false) ∧ wr.cell? ⟨w.heap.size + 1 + 1, 2, none⟩ = some (.slice none 0 0) ∧ wr.cell? ⟨w.heap.size + 1 + 1, 3, none⟩ = some (.int .u64 0) ∧ wr.cell? ⟨w.heap.size + 1 + 1, 4, none⟩ = some (.string ⟨#[]⟩) ∧ wr.cell? ⟨w.heap.size + 1 + 1, 5, none⟩ = some (.slice K i c) := ⟨HG.out.2.1.cell 0, HG.out.2.1.cell 1, HG.out.2.1.cell 2, HG.out.2.1.cell 3, HG.out.2.1.cell 4, HG.out.2.1.cell 5⟩
      have HEND : Hid (RetOG w (d + 1) 6 (.returned (.agg #[.int .i64 6, .bool false, .slice none 0 0, .int .u64 0, .string ⟨#[]⟩, .slice K i c])) (wr.setRow (w.heap.size + 1) #[.int .i64 6, .bool false, .slice none 0 0, .int .u64 0, .string ⟨#[]⟩, .slice K i c])) := Lib.hid
        ⟨⟨_, rfl, (HVV.out.stored (b := w.heap.size + 1) (fun c hc => by omega) _).weak (fun c hc => by omega)⟩, below_setRow (HK0.out.trans HG.out.1) (by omega) _⟩
      have HB9 := Lib.hid (setRow_heap _ _ _ #[.int .i64 6, .bool false, .slice none 0 0, .int .u64 0, .string ⟨#[]⟩, .slice K i c] _ _ (HBZ.out.below HG.out.1))
      by_cases hin : i < nv
      · have i1 : (i : Int) < (nv : Int) := by omega
        have i8 : ¬ (i : Int) < 8 := by omega
        clear hlt hi i0' hG hv hin hi8
        go_wp2_with fail
        exact bodyPost_blk rfl rfl HB9.out Tryz.underlying33 rfl (by exact info_Vl) rfl HEND.out
      · have i1 : ¬ (i : Int) < (nv : Int) := by omega
        clear hlt hi i0' hG hv hin hi8
        go_wp2_with fail
        exact bodyPost_blk rfl rfl HB9.out Tryz.underlying33 rfl (by exact info_Vl) rfl HEND.out
set_option maxRecDepth 100000 in
set_option maxHeartbeats 2000000 in
theorem Clean_kids7 (d : Nat) (hd : d ≤ 100) (hC : ClP d) (x D : Int) (hD : D = (d : Int) + 1) (hk : knd x D = 7) (bv : Bool) (Av Kv : Option Addr) (lv : List Nat) (cv qv nv ev : Nat) (Tv : ByteArray) (w : World) (hn : nv ≤ 9223372036854775807) (hkv : RK w (d + 1) Kv nv) :
    Calls Tryz.prog 14 #[.agg #[.int .i64 x, .bool bv, .slice Av lv.length cv, .int .u64 (qv : Int), .string Tv, .slice Kv nv ev], .int .i64 D] w (RetOG w (d + 1) 7) := by
  obtain ⟨i0, hi0, hi1, hi2, hi3⟩ := info_grow
  have HI : Hid (Tryz.prog.info? 33 = some i0 ∧ i0.zero = some (.agg #[.int .i64 0, .bool false, .slice none 0 0, .int .u64 0, .string ⟨#[]⟩, .slice none 0 0]) ∧ i0.size = 6 ∧ i0.bytes = 88) := Lib.hid ⟨hi0, hi1, hi2, hi3⟩
  obtain ⟨W, hW⟩ : ∃ W, W = ((w.alloc (.cells #[.int .i64 x, .bool bv, .slice Av lv.length cv, .int .u64 (qv : Int), .string Tv, .slice Kv nv ev] 33)).alloc (.cells #[.int .i64 0, .bool false, .slice none 0 0, .int .u64 0, .string ⟨#[]⟩, .slice none 0 0] 33)) := ⟨_, rfl⟩
  have hz : W.heap.size = w.heap.size + 1 + 1 := by rw [hW]; simp
  obtain ⟨hk0, hbx, hbz⟩ := two_boxes w #[.int .i64 x, .bool bv, .slice Av lv.length cv, .int .u64 (qv : Int), .string Tv, .slice Kv nv ev] #[.int .i64 0, .bool false, .slice none 0 0, .int .u64 0, .string ⟨#[]⟩, .slice none 0 0] 33 33
  rw [← hW] at hk0 hbx hbz
  have HX := Lib.hid (hkv.below hk0)
  have HBX := Lib.hid hbx
  have HBZ := Lib.hid hbz
  have HK0 := Lib.hid hk0
  have HCL := Lib.hid hC
  have HZ := Lib.hid hz
  have ST : Hid (GW W (fun c => w.heap.size + 1 + 1 + 1 ≤ c) (w.heap.size + 1 + 1) 7 (W.alloc (.cells #[.int .i64 7, .bool false, .slice none 0 0, .int .u64 0, .string ⟨#[]⟩, .slice none 0 0] 33)) d 0 (.slice none 0 0)) := Lib.hid (by rw [← hz]; exact GW.start W _ 7 d (fun c hc => by omega))
  have hnI : (nv : Int) ≤ 9223372036854775807 := by omega
  have hDw : wrap64 (D - 1) = (d : Int) := by unfold wrap64; omega
  have hDw2 : IntKind.i64.wrap (D - 1) = (d : Int) := by rw [IntKind.wrap_i64]; omega
  have hD0 : ¬ D ≤ 0 := by omega
  have hD1 : 0 < D := by omega
  have e : (wrap64 (x.tmod 10 + 10)).tmod 10 = 7 := by
    rcases knd_ways hk with ⟨h1, _⟩ | ⟨h1, _⟩ | ⟨_, e⟩
    · omega
    · omega
    · exact e
  clear hi0 hi1 hi2 hi3 hkv hk0 hbx hbz hC hz hD hk hd hn
  subst hW
  go_enter Tryz.func14, Tryz.ntmps14
  go_wp2_with fail
  clear e
  generalize ((w.alloc (.cells #[.int .i64 x, .bool bv, .slice Av lv.length cv, .int .u64 (qv : Int), .string Tv, .slice Kv nv ev] 33)).alloc (.cells #[.int .i64 0, .bool false, .slice none 0 0, .int .u64 0, .string ⟨#[]⟩, .slice none 0 0] 33)) = W at *
  go_loopw [7] (fun iv wr => ∃ (i : Nat) (sv : Value), iv = .int .i64 (i : Int) ∧ i ≤ nv ∧ i ≤ 8 ∧ GW W (fun c => w.heap.size + 1 + 1 + 1 ≤ c) (w.heap.size + 1 + 1) 7 wr d i sv) (fun iv _ => 20 - (intOf iv).toNat)
  case atStart => exact ⟨0, _, rfl, by omega, by omega, ST.out⟩
  case round =>
    obtain ⟨i, sv, rfl, hi, hi8, hG⟩ := hrel
    have HG := Lib.hid hG
    have t5 := (HBX.out.below HG.out.1).cell 5
    have i0' : (0 : Int) ≤ (i : Int) := by omega
    by_cases hlt : i < nv ∧ i < 8
    · obtain ⟨g, oo, x', v', rfl, ha, ho⟩ := (HX.out.below HG.out.1) i hlt.1
      have hgl : g < w.heap.size + 1 + 1 + 1 := by
        obtain ⟨g', oo', _, _, eg, ha', _⟩ := HX.out i hlt.1
        injection eg with eg
        injection eg with eg
        subst eg
        have := ha'.lt
        have := HZ.out
        omega
      obtain ⟨u0, u1, u2, u3, u4, u5, rfl, h0, h1, h2, h3, h4, h5⟩ := ha
      have A0 := Lib.hid h0
      have A1 := Lib.hid h1
      have A2 := Lib.hid h2
      have A3 := Lib.hid h3
      have A4 := Lib.hid h4
      have A5 := Lib.hid h5
      have HGL : Hid (g < w.heap.size + 1 + 1 + 1) := Lib.hid hgl
      have HC5 : Hid (wr.cell? ⟨w.heap.size + 1 + 1, 5, none⟩ = some sv ∧ wr.cell? ⟨w.heap.size, 5, none⟩ = some (.slice (some ⟨g, oo, none⟩) nv ev)) := Lib.hid ⟨HG.out.2.1.cell 5, t5⟩
      have HO : Hid (RV wr d x' (.agg #[u0, u1, u2, u3, u4, u5])) := Lib.hid ho
      have i1 : (i : Int) < (nv : Int) := by omega
      have i8 : (i : Int) < 8 := by omega
      have HLT := Lib.hid hlt
      clear ho hG hlt h0 h1 h2 h3 h4 h5 hgl hi hi8
      go_wp2_with fail
      refine wp_region_lastL _ _ _ (by simp only [List.dropLast]; rfl) (by simp only [List.getLast?_cons_cons, List.getLast?_singleton]; rfl) (fun X : World => Same (w.heap.size + 1 + 1 + 1) wr X) (by kernel_rfl) (by kernel_rfl) (fun _ _ => rfl) (fun hHeld => ?_)
      refine wpAnyH_take (i := 0) (oi := ?o0x10) (v := ?v0x10) ?hi0x10 (by kernel_rfl) (by kernel_rfl) (by kernel_rfl) ?hQ0x10 ?hy0x10 hHeld ?rest0x10
      case hi0x10 => (simp only [List.getElem?_toArray, List.getElem?_cons_zero]; rfl)
      case hQ0x10 => exact fun _ _ _ h => h
      case hy0x10 => (refine Or.inl ⟨by rfl, ?_⟩; intro W hSw; (try dsimp only at hSw); go_simp; (try with_reducible rfl))
      try simp only [Act.put, List.setIfInBounds_toArray, List.set_cons_zero, List.set_cons_succ]
      refine wpAnyH_take (i := 1) (oi := ?o1x11) (v := ?v1x11) ?hi1x11 (by kernel_rfl) (by kernel_rfl) (by kernel_rfl) ?hQ1x11 ?hy1x11 hHeld ?rest1x11
      case hi1x11 => (simp only [List.getElem?_toArray, List.getElem?_cons_succ, List.getElem?_cons_zero]; rfl)
      case hQ1x11 => exact fun _ _ _ h => h
      case hy1x11 => (refine Or.inl ⟨by rfl, ?_⟩; intro W hSw; (try dsimp only at hSw); have s5 := hSw.cell (by dsimp only; omega) HC5.out.1; have t5 := hSw.cell (by dsimp only; omega) HC5.out.2; go_simp; (try with_reducible rfl))
      try simp only [Act.put, List.setIfInBounds_toArray, List.set_cons_zero, List.set_cons_succ]
      refine wpAnyH_take (i := 2) (oi := ?o2x12) (v := ?v2x12) ?hi2x12 (by kernel_rfl) (by kernel_rfl) (by kernel_rfl) ?hQ2x12 ?hy2x12 hHeld ?rest2x12
      case hi2x12 => (simp only [List.getElem?_toArray, List.getElem?_cons_succ, List.getElem?_cons_zero]; rfl)
      case hQ2x12 => exact fun _ _ _ h => h
      case hy2x12 => (refine Or.inl ⟨by rfl, ?_⟩; intro W hSw; (try dsimp only at hSw); go_simp; (try with_reducible rfl))
      try simp only [Act.put, List.setIfInBounds_toArray, List.set_cons_zero, List.set_cons_succ]
      refine wpAnyH_take (i := 3) (oi := ?o3x13) (v := ?v3x13) ?hi3x13 (by kernel_rfl) (by kernel_rfl) (by kernel_rfl) ?hQ3x13 ?hy3x13 hHeld ?rest3x13
      case hi3x13 => (simp only [List.getElem?_toArray, List.getElem?_cons_succ, List.getElem?_cons_zero]; rfl)
      case hQ3x13 => exact fun _ _ _ h => h
      case hy3x13 => (refine Or.inl ⟨by rfl, ?_⟩; intro W hSw; (try dsimp only at hSw); have s5 := hSw.cell (by dsimp only; omega) HC5.out.1; have t5 := hSw.cell (by dsimp only; omega) HC5.out.2; go_simp; (try with_reducible rfl))
      try simp only [Act.put, List.setIfInBounds_toArray, List.set_cons_zero, List.set_cons_succ]
      refine wpAnyH_take (i := 4) (oi := ?o4x14) (v := ?v4x14) ?hi4x14 (by kernel_rfl) (by kernel_rfl) (by kernel_rfl) ?hQ4x14 ?hy4x14 hHeld ?rest4x14
      case hi4x14 => (simp only [List.getElem?_toArray, List.getElem?_cons_succ, List.getElem?_cons_zero]; rfl)
      case hQ4x14 => exact fun _ _ _ h => h
      case hy4x14 => (refine Or.inl ⟨by rfl, ?_⟩; intro W hSw; (try dsimp only at hSw); go_simp; (try with_reducible rfl))
      try simp only [Act.put, List.setIfInBounds_toArray, List.set_cons_zero, List.set_cons_succ]
      refine wpAnyH_take (i := 5) (oi := ?o5x15) (v := ?v5x15) ?hi5x15 (by kernel_rfl) (by kernel_rfl) (by kernel_rfl) ?hQ5x15 ?hy5x15 hHeld ?rest5x15
      case hi5x15 => (simp only [List.getElem?_toArray, List.getElem?_cons_succ, List.getElem?_cons_zero]; rfl)
      case hQ5x15 => exact fun _ _ _ h => h
      case hy5x15 => (refine Or.inl ⟨by rfl, ?_⟩; intro W hSw; (try dsimp only at hSw); go_simp; (try with_reducible rfl))
      try simp only [Act.put, List.setIfInBounds_toArray, List.set_cons_zero, List.set_cons_succ]
      refine wpAnyH_take (i := 6) (oi := ?o6x16) (v := ?v6x16) ?hi6x16 (by kernel_rfl) (by kernel_rfl) (by kernel_rfl) ?hQ6x16 ?hy6x16 hHeld ?rest6x16
      case hi6x16 => (simp only [List.getElem?_toArray, List.getElem?_cons_succ, List.getElem?_cons_zero]; rfl)
      case hQ6x16 => exact fun _ _ _ h => h
      case hy6x16 => (refine Or.inl ⟨by rfl, ?_⟩; intro W hSw; (try dsimp only at hSw); have a0 := hSw.cell HGL.out A0.out; have a1 := hSw.cell HGL.out A1.out; have a2 := hSw.cell HGL.out A2.out; have a3 := hSw.cell HGL.out A3.out; have a4 := hSw.cell HGL.out A4.out; have a5 := hSw.cell HGL.out A5.out; go_simp; (try with_reducible rfl))
      try simp only [Act.put, List.setIfInBounds_toArray, List.set_cons_zero, List.set_cons_succ]
      refine wpAnyH_take (i := 7) (oi := ?o7x17) (v := ?v7x17) ?hi7x17 (by kernel_rfl) (by kernel_rfl) (by kernel_rfl) ?hQ7x17 ?hy7x17 hHeld ?rest7x17
      case hi7x17 => (simp only [List.getElem?_toArray, List.getElem?_cons_succ, List.getElem?_cons_zero]; rfl)
      case hQ7x17 => exact fun _ _ _ h => h
      case hy7x17 => (refine Or.inl ⟨by rfl, ?_⟩; intro W hSw; (try dsimp only at hSw); go_simp; (try with_reducible rfl))
      try simp only [Act.put, List.setIfInBounds_toArray, List.set_cons_zero, List.set_cons_succ]
      refine wpAnyH_take (i := 8) (oi := ?o8x18) (v := ?v8x18) ?hi8x18 (by kernel_rfl) (by kernel_rfl) (by kernel_rfl) ?hQ8x18 ?hy8x18 hHeld ?rest8x18
      case hi8x18 => (simp only [List.getElem?_toArray, List.getElem?_cons_succ, List.getElem?_cons_zero]; rfl)
      case hQ8x18 => exact fun _ _ _ h => h
      case hy8x18 => (refine Or.inl ⟨by rfl, ?_⟩; intro W hSw; (try dsimp only at hSw); go_simp; (try with_reducible rfl))
      try simp only [Act.put, List.setIfInBounds_toArray, List.set_cons_zero, List.set_cons_succ]
      refine wpAnyH_ready (rs := [9]) (by kernel_rfl) (by simp) ?_
      refine (AllReadyH.cons rfl (fun K hK => ?_) AllReadyH.nil)
      go_simp
      (with_reducible refine Calls.mono (HCL.out x' _ _ (HO.out.below (by go_grown))) ?_)
      rintro e w3 ⟨⟨v3, rfl, hv3⟩, hk3⟩
      have hk3a : Kept wr w3 := ⟨hk3.os, hk3.tape, hk3.output, hk3.size, hk3.block⟩
      generalize hkk : knd x' (d : Int) = kk at hv3
      clear hkk
      have HV3 := Lib.hid hv3
      have HK3 := Lib.hid hk3a
      have HS3 : Hid (Same (w.heap.size + 1 + 1 + 1) wr w3) := Lib.hid (Same.of_kept hk3a (by have := HG.out.2.1.lt; omega))
      obtain ⟨b3, B3, c3, l3, q3, T3, K3, n3, e3, rfl, _⟩ := hv3
      clear hk3 hk3a
      refine hK.out _ _ ?_ (fun hHeld => ?_)
      · (exact HS3.out)
      clear hK K
      try simp only [Act.put, List.setIfInBounds_toArray, List.set_cons_zero, List.set_cons_succ]
      refine wpAnyH_ready (rs := [10]) (by kernel_rfl) (by simp) ?_
      refine (AllReadyH.cons rfl (fun K hK => ?_) AllReadyH.nil)
      go_simp
      refine hK.out _ _ ?_ (fun hHeld => ?_)
      · (exact HS3.out.trans (Same.of_kept ((Below.refl _ w3).alloc (Nat.le_refl _) _) (by have := HG.out.2.1.lt; have := HK3.out.size; omega)))
      clear hK K
      try simp only [Act.put, List.setIfInBounds_toArray, List.set_cons_zero, List.set_cons_succ]
      have HXR := Lib.hid HG.out.2.2.1.choose_spec.1
      have hk4 : Kept wr (w3.alloc (.cells #[.int .i64 kk, .bool b3, .slice B3 l3.length c3, .int .u64 (q3 : Int), .string T3, .slice K3 n3 e3] 33)) := HK3.out.trans ((Below.refl _ w3).alloc (Nat.le_refl _) _)
      have HG4 := Lib.hid (HG.out.below hk4)
      obtain ⟨xs, hx4, hv4⟩ := HG4.out.2.2.1
      have HX4 := Lib.hid hx4
      have HV4 := Lib.hid hv4
      have HS4 : Hid (Same (w.heap.size + 1 + 1 + 1) wr (w3.alloc (.cells #[.int .i64 kk, .bool b3, .slice B3 l3.length c3, .int .u64 (q3 : Int), .string T3, .slice K3 n3 e3] 33))) := Lib.hid (Same.of_kept hk4 (by have := HG.out.2.1.lt; omega))
      have HNW : Hid (∀ j, j < 1 → ∃ k v, Six [.int .i64 kk, .bool b3, .slice B3 l3.length c3, .int .u64 (q3 : Int), .string T3, .slice K3 n3 e3] (j * 6) v ∧ OG (fun c => (fun c => w.heap.size + 1 + 1 + 1 ≤ c) c ∧ sv.ownBlock ≠ some c) (w3.alloc (.cells #[.int .i64 kk, .bool b3, .slice B3 l3.length c3, .int .u64 (q3 : Int), .string T3, .slice K3 n3 e3] 33)) d k v) := Lib.hid fun j hj => by
        obtain rfl : j = 0 := by omega
        refine ⟨kk, _, six_lit _ _ _ _ _ _, ?_⟩
        refine HV3.out.apart (fun c hc hl => ?_) ((Below.refl _ w3).alloc (Nat.le_refl _) _)
        have hlt := HXR.out.lt
        have hzz := HG.out.2.1.lt
        have hc' : wr.heap.size ≤ c := hc
        exact ⟨by omega, fun e => by have := (hlt c e).2; omega⟩
      have HLN : Hid (i < 16) := Lib.hid (by have := HLT.out; omega)
      clear hk4 hx4 hv4
      refine wpAnyH_ready (rs := [11]) (by kernel_rfl) (by simp) ?_
      refine (AllReadyH.cons rfl (fun K hK => ?_) AllReadyH.nil)
      refine step_append_lies _ rfl (.tmp 76) (.tmp 85) 31 rfl (w.heap.size + 1 + 1 + 1) 33 i0 (.agg #[.int .i64 0, .bool false, .slice none 0 0, .int .u64 0, .string ⟨#[]⟩, .slice none 0 0]) 6 88 Tryz.underlying31 HI.out.1 HI.out.2.1 HI.out.2.2.1 HI.out.2.2.2 rfl (by omega) _ i _ rfl HX4.out ⟨w3.heap.size, 0, none⟩ 1 1 [.int .i64 kk, .bool b3, .slice B3 l3.length c3, .int .u64 (q3 : Int), .string T3, .slice K3 n3 e3] rfl rfl (cells_new w3 _ _) (by intro u hu; simp at hu; rcases hu with rfl | rfl | rfl | rfl | rfl | rfl <;> rfl) (by omega) (by simp only [maxLen]; have := HLN.out; omega) (by have := HLN.out; omega) (by have := HG4.out.2.1.lt; omega) _ rfl ?_
      intro g2 cap2 w5 ho2 hg2 hat hgl
      have HST5 := Lib.hid (GW.step HG4.out HX4.out HV4.out ho2 hg2 hat HNW.out)
      clear ho2 hg2 hat hgl
      refine hK.out _ _ ?_ (fun hHeld => ?_)
      · (exact HS4.out.trans (HST5.out.2.2.1))
      clear hK K
      try simp only [Act.put, List.setIfInBounds_toArray]
      refine wpAnyH_take (i := 12) (oi := ?o12x19) (v := ?v12x19) ?hi12x19 (by kernel_rfl) (by kernel_rfl) (by kernel_rfl) ?hQ12x19 ?hy12x19 hHeld ?rest12x19
      case hi12x19 => (simp only [List.getElem?_toArray, List.getElem?_cons_succ, List.getElem?_cons_zero]; rfl)
      case hQ12x19 => exact fun _ _ _ h => h
      case hy12x19 => (refine Or.inl ⟨by rfl, ?_⟩; intro W hSw; (try dsimp only at hSw); go_simp; (try with_reducible rfl))
      try simp only [Act.put]
      refine wpAnyH_done (by kernel_rfl) ?_ _
      simp only [lastQ]
      have d5 := HST5.out.1
      have dz := HST5.out.2.1
      have HG5 := Lib.hid HST5.out.2.2.2
      clear hHeld
      go_wp2_with fail
      exact ⟨⟨i + 1, _, by go_num, by have := HLT.out; omega, by have := HLT.out; omega, HG5.out⟩, by have := HLN.out; simp [intOf]; omega⟩
    · have HNO := Lib.hid hlt
      have H8 := Lib.hid hi8
      obtain ⟨K, c, rfl, hv⟩ := HG.out.value (by decide) (by decide) (by omega) (fun h => by omega)
      have HVV := Lib.hid hv
      have hst := run_storeVar_row (P := Tryz.prog) wr (w.heap.size + 1) 33 33 _ #[.int .i64 7, .bool false, .slice none 0 0, .int .u64 0, .string ⟨#[]⟩, .slice K i c] (HBZ.out.below HG.out.1) info_Vl rfl (by simp [Value.oneCell'])
      simp [go_sem] at hst
      obtain ⟨c0, c1, c2, c3, c4, c5⟩ : wr.cell? ⟨w.heap.size + 1 + 1, 0, none⟩ = some (.int .i64 7) ∧ wr.cell? ⟨w.heap.size + 1 + 1, 1, none⟩ = some (.bool false) ∧ wr.cell? ⟨w.heap.size + 1 + 1, 2, none⟩ = some (.slice none 0 0) ∧ wr.cell? ⟨w.heap.size + 1 + 1, 3, none⟩ = some (.int .u64 0) ∧ wr.cell? ⟨w.heap.size + 1 + 1, 4, none⟩ = some (.string ⟨#[]⟩) ∧ wr.cell? ⟨w.heap.size + 1 + 1, 5, none⟩ = some (.slice K i c) := ⟨HG.out.2.1.cell 0, HG.out.2.1.cell 1, HG.out.2.1.cell 2, HG.out.2.1.cell 3, HG.out.2.1.cell 4, HG.out.2.1.cell 5⟩
      have HEND : Hid (RetOG w (d + 1) 7 (.returned (.agg #[.int .i64 7, .bool false, .slice none 0 0, .int .u64 0, .string ⟨#[]⟩, .slice K i c])) (wr.setRow (w.heap.size + 1) #[.int .i64 7, .bool false, .slice none 0 0, .int .u64 0, .string ⟨#[]⟩, .slice K i c])) := Lib.hid
        ⟨⟨_, rfl, (HVV.out.stored (b := w.heap.size + 1) (fun c hc => by omega) _).weak (fun c hc => by omega)⟩, below_setRow (HK0.out.trans HG.out.1) (by omega) _⟩
      have HB9 := Lib.hid (setRow_heap _ _ _ #[.int .i64 7, .bool false, .slice none 0 0, .int .u64 0, .string ⟨#[]⟩, .slice K i c] _ _ (HBZ.out.below HG.out.1))
      by_cases hin : i < nv
      · have i1 : (i : Int) < (nv : Int) := by omega
        have i8 : ¬ (i : Int) < 8 := by omega
        clear hlt hi i0' hG hv hin hi8
        go_wp2_with fail
        exact bodyPost_blk rfl rfl HB9.out Tryz.underlying33 rfl (by exact info_Vl) rfl HEND.out
      · have i1 : ¬ (i : Int) < (nv : Int) := by omega
        clear hlt hi i0' hG hv hin hi8
        go_wp2_with fail
        exact bodyPost_blk rfl rfl HB9.out Tryz.underlying33 rfl (by exact info_Vl) rfl HEND.out
end Go.Proofs.YtoociokhldakbaaGreat
