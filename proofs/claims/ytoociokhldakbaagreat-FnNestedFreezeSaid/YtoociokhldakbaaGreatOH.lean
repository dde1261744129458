/- cleanDict. -/
import Derived.Test.YtoociokhldakbaaGreatOG
import Derived.OwnWalk
import Derived.Deep.DeepMust
import Derived.Deep.AppendLies
import Derived.Deep.RegionHeld3
import Derived.Orders
namespace Go.Proofs.YtoociokhldakbaaGreat
open Go.ChangeShapes Go.WideShapes Go.ChangeAt Go.RowKit
set_option linter.unusedVariables false
set_option maxRecDepth 100000 in
set_option maxHeartbeats 2000000 in
theorem cleanDict_any (d : Nat) (hd : d ≤ 100) (hC : ClP d) (x D : Int) (hD : D = (d : Int) + 1) (bv : Bool) (Av Kv : Option Addr) (lv : List Nat) (cv qv nv ev : Nat) (Tv : ByteArray) (w : World) (hn : nv ≤ 9223372036854775807) (hkv : RK w (d + 1) Kv nv) :
    Calls Tryz.prog 23 #[.agg #[.int .i64 x, .bool bv, .slice Av lv.length cv, .int .u64 (qv : Int), .string Tv, .slice Kv nv ev], .int .i64 D] w (RetOG w (d + 1) 8) := by
  obtain ⟨i0, hi0, hi1, hi2, hi3⟩ := info_grow
  have HI : Hid (Tryz.prog.info? 33 = some i0 ∧ i0.zero = some (.agg #[.int .i64 0, .bool false, .slice none 0 0, .int .u64 0, .string ⟨#[]⟩, .slice none 0 0]) ∧ i0.size = 6 ∧ i0.bytes = 88) := Lib.hid ⟨hi0, hi1, hi2, hi3⟩
  obtain ⟨W, hW⟩ : ∃ W, W = ((w.alloc (.cells #[.int .i64 x, .bool bv, .slice Av lv.length cv, .int .u64 (qv : Int), .string Tv, .slice Kv nv ev] 33)).alloc (.cells #[.int .i64 0, .bool false, .slice none 0 0, .int .u64 0, .string ⟨#[]⟩, .slice none 0 0] 33)) := ⟨_, rfl⟩
  have hz : W.heap.size = w.heap.size + 1 + 1 := by rw [hW]; simp
  obtain ⟨hk0, hbx, hbz⟩ := two_boxes w #[.int .i64 x, .bool bv, .slice Av lv.length cv, .int .u64 (qv : Int), .string Tv, .slice Kv nv ev] #[.int .i64 0, .bool false, .slice none 0 0, .int .u64 0, .string ⟨#[]⟩, .slice none 0 0] 33 33
  rw [← hW] at hk0 hbx hbz
  have HX := Lib.hid (hkv.below hk0)
  have HBX := Lib.hid hbx
  have HBZ := Lib.hid hbz
  have HK0 := Lib.hid hk0
  have HCL := Lib.hid hC
  have HZ := Lib.hid hz
  have ST : Hid (GW W (fun c => w.heap.size + 1 + 1 + 1 ≤ c) (w.heap.size + 1 + 1) 8 (W.alloc (.cells #[.int .i64 8, .bool false, .slice none 0 0, .int .u64 0, .string ⟨#[]⟩, .slice none 0 0] 33)) d 0 (.slice none 0 0)) := Lib.hid (by rw [← hz]; exact GW.start W _ 8 d (fun c hc => by omega))
  have hnI : (nv : Int) ≤ 9223372036854775807 := by omega
  have hDw : wrap64 (D - 1) = (d : Int) := by unfold wrap64; omega
  have hDw2 : IntKind.i64.wrap (D - 1) = (d : Int) := by rw [IntKind.wrap_i64]; omega
  clear hi0 hi1 hi2 hi3 hkv hk0 hbx hbz hC hz hD hd hn
  subst hW
  go_enter Tryz.func23, Tryz.ntmps23
  go_wp2_with fail
  generalize ((w.alloc (.cells #[.int .i64 x, .bool bv, .slice Av lv.length cv, .int .u64 (qv : Int), .string Tv, .slice Kv nv ev] 33)).alloc (.cells #[.int .i64 0, .bool false, .slice none 0 0, .int .u64 0, .string ⟨#[]⟩, .slice none 0 0] 33)) = W at *
  go_loopw [6] (fun iv wr => ∃ (j i : Nat) (sv : Value), iv = .int .i64 (j : Int) ∧ i ≤ j ∧ j ≤ nv + 1 ∧ j ≤ 16 ∧ j % 2 = 0 ∧ i % 2 = 0 ∧ GW W (fun c => w.heap.size + 1 + 1 + 1 ≤ c) (w.heap.size + 1 + 1) 8 wr d i sv) (fun iv _ => 20 - (intOf iv).toNat)
  case atStart => exact ⟨0, 0, _, rfl, by omega, by omega, by omega, rfl, rfl, ST.out⟩
  case round =>
    obtain ⟨j, i, sv, rfl, hij, hi, hi8, hj2, hi2, hG⟩ := hrel
    have HG := Lib.hid hG
    have t5 := (HBX.out.below HG.out.1).cell 5
    have i0' : (0 : Int) ≤ (j : Int) := by omega
    have i2 : (0 : Int) ≤ (j : Int) + 1 := by omega
    have iw : wrap64 ((j : Int) + 1) = (j : Int) + 1 := by unfold wrap64; omega
    have iw2 : IntKind.i64.wrap ((j : Int) + 1) = (j : Int) + 1 := by rw [IntKind.wrap_i64]; omega
    have it : ((j : Int) + 1).toNat = j + 1 := by omega
    have HI8 : Hid (i ≤ 16 ∧ i % 2 = 0) := Lib.hid ⟨by omega, hi2⟩
    by_cases hlt : j + 1 < nv ∧ j < 16
    · have i1 : (j : Int) + 1 < (nv : Int) := by omega
      have i1' : (j : Int) < (nv : Int) := by omega
      have i8 : (j : Int) < 16 := by omega
      have HLT : Hid (j + 1 < nv ∧ j < 16 ∧ i ≤ j ∧ j % 2 = 0) := Lib.hid ⟨hlt.1, hlt.2, hij, hj2⟩
      obtain ⟨g, oo, x', v', rfl, ha, ho⟩ := (HX.out.below HG.out.1) j (by omega)
      obtain ⟨u0, u1, u2, u3, u4, u5, rfl, a0, a1, a2, a3, a4, a5⟩ := ha
      have HO : Hid (RV wr d x' (.agg #[u0, u1, u2, u3, u4, u5])) := Lib.hid ho
      obtain ⟨g2', oo2, x9, v9', eg2, ha9, ho9⟩ := (HX.out.below HG.out.1) (j + 1) hlt.1
      injection eg2 with eg2
      injection eg2 with eg2 eg3
      subst eg2 eg3
      have hgl : g < w.heap.size + 1 + 1 + 1 := by
        obtain ⟨g', oo', _, _, eg, ha', _⟩ := HX.out j (by omega)
        injection eg with eg
        injection eg with eg
        subst eg
        have := ha'.lt
        have := HZ.out
        omega
      have HGL : Hid (g < w.heap.size + 1 + 1 + 1) := Lib.hid hgl
      have HAT9 := Lib.hid ha9
      have HO9 : Hid (RV wr d x9 v9') := Lib.hid ho9
      clear ho hG hlt hi hi8 hij hj2 hi2 ha9 ho9 hgl
      go_wp2_with fail
      refine (HCL.out x' _ _ HO.out).mono ?_
      rintro e w3 ⟨⟨v3, rfl, hv3⟩, hk3⟩
      generalize hkk : knd x' (d : Int) = k3 at hv3
      clear hkk
      have HV3 := Lib.hid hv3
      have HK3 := Lib.hid hk3
      obtain ⟨b3, B3, c3, l3, q3, T3, K3, n3, e3, rfl, _⟩ := hv3
      clear hk3 a0 a1 a2 a3 a4 a5
      go_wp2_with fail
      refine (Key_any d _ _ _ _ HV3.out).mono ?_
      rintro e w4 ⟨⟨kk, v4, rfl, hv4⟩, hk4⟩
      have HV4 : Hid (OG (fun c => wr.heap.size ≤ c) w4 d kk v4) := Lib.hid (hv4.weak fun c hc => by
        have := HK3.out.size
        rcases hc with hc | hc
        · exact hc
        · exact Nat.le_trans this hc)
      have HK4 := Lib.hid (HK3.out.trans hk4)
      obtain ⟨b4, B4, c4, l4, q4, T4, K4, n4, e4, rfl, _⟩ := hv4
      have hk5 : Kept w4 (w4.alloc (.cells #[.int .i64 kk, .bool b4, .slice B4 l4.length c4, .int .u64 (q4 : Int), .string T4, .slice K4 n4 e4] 33)) := (Below.refl _ w4).alloc (Nat.le_refl _) _
      have hk5w : Kept wr (w4.alloc (.cells #[.int .i64 kk, .bool b4, .slice B4 l4.length c4, .int .u64 (q4 : Int), .string T4, .slice K4 n4 e4] 33)) := HK4.out.trans hk5
      have HT7 := Lib.hid (Blk.new w4 33 #[.int .i64 kk, .bool b4, .slice B4 l4.length c4, .int .u64 (q4 : Int), .string T4, .slice K4 n4 e4])
      have HG5 := Lib.hid (HG.out.below hk5w)
      have HK5 := Lib.hid hk5w
      have HV5 := Lib.hid (HV4.out.below hk5)
      have s5 := HG5.out.2.1.cell 5
      obtain ⟨K, c, esv, hKG⟩ := HG5.out.2.2.1.form
      have HKG := Lib.hid hKG
      subst esv
      clear hk4 hk5 hk5w hKG
      go_wp2_with fail
      refine (Find_any d _ _ K i c 2 kk _ _ (by omega) HKG.out (by have := HLT.out; have := HI8.out; omega) HV5.out).mono ?_
      rintro e w6 ⟨⟨r, rfl, hr⟩, hk6⟩
      have HG6 := Lib.hid (HG5.out.below hk6)
      have HT6 := Lib.hid (HT7.out.below hk6)
      have HV6 := Lib.hid (HV5.out.below hk6)
      have HK6 := Lib.hid (HK5.out.trans hk6)
      clear hk6 s5
      rcases hr with rfl | ⟨r, rfl, _, _⟩
      · obtain ⟨r0, r1, r2, r3, r4, r5, rfl, h0, h1, h2, h3, h4, h5⟩ := HAT9.out.below HK6.out
        have A0 := Lib.hid h0
        have A1 := Lib.hid h1
        have A2 := Lib.hid h2
        have A3 := Lib.hid h3
        have A4 := Lib.hid h4
        have A5 := Lib.hid h5
        have HC5 : Hid (w6.cell? ⟨w.heap.size + 1 + 1, 5, none⟩ = some (.slice K i c) ∧ w6.cell? ⟨w.heap.size, 5, none⟩ = some (.slice (some ⟨g, oo, none⟩) nv ev)) := Lib.hid ⟨HG6.out.2.1.cell 5, (HBX.out.below HG6.out.1).cell 5⟩
        have HO6 := Lib.hid (HO9.out.below HK6.out)
        clear h0 h1 h2 h3 h4 h5
        go_wp2_with fail
        refine wp_region_lastL _ _ _ (by simp only [List.dropLast]; rfl) (by simp only [List.getLast?_cons_cons, List.getLast?_singleton]; rfl) (fun X : World => Same (w.heap.size + 1 + 1 + 1) w6 X ∧ Blk X w4.heap.size 33 #[.int .i64 kk, .bool b4, .slice B4 l4.length c4, .int .u64 (q4 : Int), .string T4, .slice K4 n4 e4]) (by kernel_rfl) (by kernel_rfl) (⟨fun _ _ => rfl, HT6.out⟩) (fun hHeld => ?_)
        refine wpAnyH_take (i := 0) (oi := ?o0x0) (v := ?v0x0) ?hi0x0 (by kernel_rfl) (by kernel_rfl) (by kernel_rfl) ?hQ0x0 ?hy0x0 hHeld ?rest0x0
        case hi0x0 => (simp only [List.getElem?_toArray, List.getElem?_cons_zero]; rfl)
        case hQ0x0 => exact fun _ _ _ h => h
        case hy0x0 => (refine Or.inl ⟨by rfl, ?_⟩; intro W hSw; (try dsimp only at hSw); go_simp; (try with_reducible rfl))
        try simp only [Act.put, List.setIfInBounds_toArray, List.set_cons_zero, List.set_cons_succ]
        refine wpAnyH_take (i := 1) (oi := ?o1x1) (v := ?v1x1) ?hi1x1 (by kernel_rfl) (by kernel_rfl) (by kernel_rfl) ?hQ1x1 ?hy1x1 hHeld ?rest1x1
        case hi1x1 => (simp only [List.getElem?_toArray, List.getElem?_cons_succ, List.getElem?_cons_zero]; rfl)
        case hQ1x1 => exact fun _ _ _ h => h
        case hy1x1 => (refine Or.inl ⟨by rfl, ?_⟩; intro W hSw; (try dsimp only at hSw); have s5 := hSw.1.cell (by dsimp only; omega) HC5.out.1; have t5 := hSw.1.cell (by dsimp only; omega) HC5.out.2; go_simp; (try with_reducible rfl))
        try simp only [Act.put, List.setIfInBounds_toArray, List.set_cons_zero, List.set_cons_succ]
        refine wpAnyH_take (i := 2) (oi := ?o2x2) (v := (.agg #[.int .i64 kk, .bool b4, .slice B4 l4.length c4, .int .u64 (q4 : Int), .string T4, .slice K4 n4 e4])) ?hi2x2 (by kernel_rfl) (by kernel_rfl) (by kernel_rfl) ?hQ2x2 ?hy2x2 hHeld ?rest2x2
        case hi2x2 => (simp only [List.getElem?_toArray, List.getElem?_cons_succ, List.getElem?_cons_zero]; rfl)
        case hQ2x2 => exact fun _ _ _ h => h
        case hy2x2 => exact yields_load_row (by rfl) 33 (.tmp 7) (by rfl) w4.heap.size (by rfl) _ _ _ (fun X hX => hX.2) Tryz.underlying33 (by rfl) info_Vl
        try simp only [Act.put, List.setIfInBounds_toArray, List.set_cons_zero, List.set_cons_succ]
        refine wpAnyH_take (i := 3) (oi := ?o3x3) (v := ?v3x3) ?hi3x3 (by kernel_rfl) (by kernel_rfl) (by kernel_rfl) ?hQ3x3 ?hy3x3 hHeld ?rest3x3
        case hi3x3 => (simp only [List.getElem?_toArray, List.getElem?_cons_succ, List.getElem?_cons_zero]; rfl)
        case hQ3x3 => exact fun _ _ _ h => h
        case hy3x3 => (refine Or.inl ⟨by rfl, ?_⟩; intro W hSw; (try dsimp only at hSw); go_simp; (try with_reducible rfl))
        try simp only [Act.put, List.setIfInBounds_toArray, List.set_cons_zero, List.set_cons_succ]
        refine wpAnyH_take (i := 4) (oi := ?o4x4) (v := ?v4x4) ?hi4x4 (by kernel_rfl) (by kernel_rfl) (by kernel_rfl) ?hQ4x4 ?hy4x4 hHeld ?rest4x4
        case hi4x4 => (simp only [List.getElem?_toArray, List.getElem?_cons_succ, List.getElem?_cons_zero]; rfl)
        case hQ4x4 => exact fun _ _ _ h => h
        case hy4x4 => (refine Or.inl ⟨by rfl, ?_⟩; intro W hSw; (try dsimp only at hSw); have s5 := hSw.1.cell (by dsimp only; omega) HC5.out.1; have t5 := hSw.1.cell (by dsimp only; omega) HC5.out.2; go_simp; (try with_reducible rfl))
        try simp only [Act.put, List.setIfInBounds_toArray, List.set_cons_zero, List.set_cons_succ]
        refine wpAnyH_take (i := 5) (oi := ?o5x5) (v := ?v5x5) ?hi5x5 (by kernel_rfl) (by kernel_rfl) (by kernel_rfl) ?hQ5x5 ?hy5x5 hHeld ?rest5x5
        case hi5x5 => (simp only [List.getElem?_toArray, List.getElem?_cons_succ, List.getElem?_cons_zero]; rfl)
        case hQ5x5 => exact fun _ _ _ h => h
        case hy5x5 => (refine Or.inl ⟨by rfl, ?_⟩; intro W hSw; (try dsimp only at hSw); go_simp; (try with_reducible rfl))
        try simp only [Act.put, List.setIfInBounds_toArray, List.set_cons_zero, List.set_cons_succ]
        refine wpAnyH_take (i := 6) (oi := ?o6x6) (v := ?v6x6) ?hi6x6 (by kernel_rfl) (by kernel_rfl) (by kernel_rfl) ?hQ6x6 ?hy6x6 hHeld ?rest6x6
        case hi6x6 => (simp only [List.getElem?_toArray, List.getElem?_cons_succ, List.getElem?_cons_zero]; rfl)
        case hQ6x6 => exact fun _ _ _ h => h
        case hy6x6 => (refine Or.inl ⟨by rfl, ?_⟩; intro W hSw; (try dsimp only at hSw); go_simp; (try with_reducible rfl))
        try simp only [Act.put, List.setIfInBounds_toArray, List.set_cons_zero, List.set_cons_succ]
        refine wpAnyH_take (i := 7) (oi := ?o7x7) (v := ?v7x7) ?hi7x7 (by kernel_rfl) (by kernel_rfl) (by kernel_rfl) ?hQ7x7 ?hy7x7 hHeld ?rest7x7
        case hi7x7 => (simp only [List.getElem?_toArray, List.getElem?_cons_succ, List.getElem?_cons_zero]; rfl)
        case hQ7x7 => exact fun _ _ _ h => h
        case hy7x7 => (refine Or.inl ⟨by rfl, ?_⟩; intro W hSw; (try dsimp only at hSw); go_simp; (try with_reducible rfl))
        try simp only [Act.put, List.setIfInBounds_toArray, List.set_cons_zero, List.set_cons_succ]
        refine wpAnyH_take (i := 8) (oi := ?o8x8) (v := ?v8x8) ?hi8x8 (by kernel_rfl) (by kernel_rfl) (by kernel_rfl) ?hQ8x8 ?hy8x8 hHeld ?rest8x8
        case hi8x8 => (simp only [List.getElem?_toArray, List.getElem?_cons_succ, List.getElem?_cons_zero]; rfl)
        case hQ8x8 => exact fun _ _ _ h => h
        case hy8x8 => (refine Or.inl ⟨by rfl, ?_⟩; intro W hSw; (try dsimp only at hSw); have a0 := hSw.1.cell HGL.out A0.out; have a1 := hSw.1.cell HGL.out A1.out; have a2 := hSw.1.cell HGL.out A2.out; have a3 := hSw.1.cell HGL.out A3.out; have a4 := hSw.1.cell HGL.out A4.out; have a5 := hSw.1.cell HGL.out A5.out; go_simp; (try with_reducible rfl))
        try simp only [Act.put, List.setIfInBounds_toArray, List.set_cons_zero, List.set_cons_succ]
        refine wpAnyH_take (i := 9) (oi := ?o9x9) (v := ?v9x9) ?hi9x9 (by kernel_rfl) (by kernel_rfl) (by kernel_rfl) ?hQ9x9 ?hy9x9 hHeld ?rest9x9
        case hi9x9 => (simp only [List.getElem?_toArray, List.getElem?_cons_succ, List.getElem?_cons_zero]; rfl)
        case hQ9x9 => exact fun _ _ _ h => h
        case hy9x9 => (refine Or.inl ⟨by rfl, ?_⟩; intro W hSw; (try dsimp only at hSw); go_simp; (try with_reducible rfl))
        try simp only [Act.put, List.setIfInBounds_toArray, List.set_cons_zero, List.set_cons_succ]
        refine wpAnyH_take (i := 10) (oi := ?o10x10) (v := ?v10x10) ?hi10x10 (by kernel_rfl) (by kernel_rfl) (by kernel_rfl) ?hQ10x10 ?hy10x10 hHeld ?rest10x10
        case hi10x10 => (simp only [List.getElem?_toArray, List.getElem?_cons_succ, List.getElem?_cons_zero]; rfl)
        case hQ10x10 => exact fun _ _ _ h => h
        case hy10x10 => (refine Or.inl ⟨by rfl, ?_⟩; intro W hSw; (try dsimp only at hSw); go_simp; (try with_reducible rfl))
        try simp only [Act.put, List.setIfInBounds_toArray, List.set_cons_zero, List.set_cons_succ]
        refine wpAnyH_ready (rs := [11]) (by kernel_rfl) (by simp) ?_
        refine (AllReadyH.cons rfl (fun K hK => ?_) AllReadyH.nil)
        go_simp
        (with_reducible refine Calls.mono (HCL.out x9 _ _ (HO6.out.below (by go_grown))) ?_)
        rintro e w9 ⟨⟨v9, rfl, hv9⟩, hk9⟩
        have hk9a : Kept w6 w9 := ⟨hk9.os, hk9.tape, hk9.output, hk9.size, hk9.block⟩
        generalize hkk : knd x9 (d : Int) = k9 at hv9
        clear hkk
        have HV9 := Lib.hid hv9
        have HK9 := Lib.hid hk9a
        have HS9 : Hid (Same (w.heap.size + 1 + 1 + 1) w6 w9 ∧ Blk w9 w4.heap.size 33 #[.int .i64 kk, .bool b4, .slice B4 l4.length c4, .int .u64 (q4 : Int), .string T4, .slice K4 n4 e4]) := Lib.hid ⟨Same.of_kept hk9a (by have := HG6.out.2.1.lt; omega), Blk.below HT6.out hk9a⟩
        obtain ⟨b9, B9, c9, l9, q9, T9, K9, n9, e9, rfl, _⟩ := hv9
        clear hk9 hk9a
        refine hK.out _ _ ?_ (fun hHeld => ?_)
        · (exact HS9.out)
        clear hK K
        try simp only [Act.put, List.setIfInBounds_toArray, List.set_cons_zero, List.set_cons_succ]
        refine wpAnyH_ready (rs := [12]) (by kernel_rfl) (by simp) ?_
        refine (AllReadyH.cons rfl (fun K hK => ?_) AllReadyH.nil)
        go_simp
        have hk10a : Kept w9 (w9.alloc (.cells #[.int .i64 kk, .bool b4, .slice B4 l4.length c4, .int .u64 (q4 : Int), .string T4, .slice K4 n4 e4, .int .i64 k9, .bool b9, .slice B9 l9.length c9, .int .u64 (q9 : Int), .string T9, .slice K9 n9 e9] 33)) := (Below.refl _ w9).alloc (Nat.le_refl _) _
        refine hK.out _ _ ?_ (fun hHeld => ?_)
        · (exact ⟨HS9.out.1.trans (Same.of_kept hk10a (by have := HG6.out.2.1.lt; have := HK9.out.size; omega)), Blk.below HS9.out.2 hk10a⟩)
        clear hK K
        try simp only [Act.put, List.setIfInBounds_toArray, List.set_cons_zero, List.set_cons_succ]
        have hk10 : Kept w6 (w9.alloc (.cells #[.int .i64 kk, .bool b4, .slice B4 l4.length c4, .int .u64 (q4 : Int), .string T4, .slice K4 n4 e4, .int .i64 k9, .bool b9, .slice B9 l9.length c9, .int .u64 (q9 : Int), .string T9, .slice K9 n9 e9] 33)) := HK9.out.trans hk10a
        have HG10 := Lib.hid (HG6.out.below hk10)
        have HXR := Lib.hid HG.out.2.2.1.choose_spec.1
        have HNW : Hid (∀ j, j < 2 → ∃ k v, Six [.int .i64 kk, .bool b4, .slice B4 l4.length c4, .int .u64 (q4 : Int), .string T4, .slice K4 n4 e4, .int .i64 k9, .bool b9, .slice B9 l9.length c9, .int .u64 (q9 : Int), .string T9, .slice K9 n9 e9] (j * 6) v ∧ OG (fun c' => (fun c => w.heap.size + 1 + 1 + 1 ≤ c) c' ∧ (Value.slice K i c).ownBlock ≠ some c') (w9.alloc (.cells #[.int .i64 kk, .bool b4, .slice B4 l4.length c4, .int .u64 (q4 : Int), .string T4, .slice K4 n4 e4, .int .i64 k9, .bool b9, .slice B9 l9.length c9, .int .u64 (q9 : Int), .string T9, .slice K9 n9 e9] 33)) d k v) := Lib.hid fun j hj => by
          have hlt := HXR.out.lt
          have hzz := HG.out.2.1.lt
          have hsz := HK6.out.size
          by_cases h0 : j = 0
          · subst h0
            refine ⟨kk, _, ⟨_, _, _, _, _, _, rfl, rfl, rfl, rfl, rfl, rfl, rfl⟩, ?_⟩
            refine HV6.out.apart (fun c' hc hl => ?_) hk10
            have hc' : wr.heap.size ≤ c' := hc
            exact ⟨by omega, fun e => by have := (hlt c' e).2; omega⟩
          · obtain rfl : j = 1 := by omega
            refine ⟨k9, _, ⟨_, _, _, _, _, _, rfl, rfl, rfl, rfl, rfl, rfl, rfl⟩, ?_⟩
            refine HV9.out.apart (fun c' hc hl => ?_) hk10a
            have hc' : w6.heap.size ≤ c' := hc
            exact ⟨by omega, fun e => by have := (hlt c' e).2; omega⟩
        obtain ⟨xs, hx10, hv10⟩ := HG10.out.2.2.1
        have HX10 := Lib.hid hx10
        have HV10 := Lib.hid hv10
        have HS10 : Hid (Same (w.heap.size + 1 + 1 + 1) w6 (w9.alloc (.cells #[.int .i64 kk, .bool b4, .slice B4 l4.length c4, .int .u64 (q4 : Int), .string T4, .slice K4 n4 e4, .int .i64 k9, .bool b9, .slice B9 l9.length c9, .int .u64 (q9 : Int), .string T9, .slice K9 n9 e9] 33))) := Lib.hid (Same.of_kept hk10 (by have := HG6.out.2.1.lt; omega))
        have HB10 : Hid (Blk (w9.alloc (.cells #[.int .i64 kk, .bool b4, .slice B4 l4.length c4, .int .u64 (q4 : Int), .string T4, .slice K4 n4 e4, .int .i64 k9, .bool b9, .slice B9 l9.length c9, .int .u64 (q9 : Int), .string T9, .slice K9 n9 e9] 33)) w4.heap.size 33 #[.int .i64 kk, .bool b4, .slice B4 l4.length c4, .int .u64 (q4 : Int), .string T4, .slice K4 n4 e4]) := Lib.hid (Blk.below HS9.out.2 hk10a)
        clear hk10 hk10a hx10 hv10
        refine wpAnyH_ready (rs := [13]) (by kernel_rfl) (by simp) ?_
        refine (AllReadyH.cons rfl (fun K hK => ?_) AllReadyH.nil)
        refine step_append_lies _ rfl (.tmp 36) (.tmp 47) 31 rfl (w.heap.size + 1 + 1 + 1) 33 i0 (.agg #[.int .i64 0, .bool false, .slice none 0 0, .int .u64 0, .string ⟨#[]⟩, .slice none 0 0]) 6 88 Tryz.underlying31 HI.out.1 HI.out.2.1 HI.out.2.2.1 HI.out.2.2.2 rfl (by omega) _ i _ rfl HX10.out ⟨w9.heap.size, 0, none⟩ 2 2 [.int .i64 kk, .bool b4, .slice B4 l4.length c4, .int .u64 (q4 : Int), .string T4, .slice K4 n4 e4, .int .i64 k9, .bool b9, .slice B9 l9.length c9, .int .u64 (q9 : Int), .string T9, .slice K9 n9 e9] rfl rfl (cells_new w9 _ _) (by intro u hu; simp at hu; rcases hu with rfl | rfl | rfl | rfl | rfl | rfl | rfl | rfl | rfl | rfl | rfl | rfl <;> rfl) (by omega) (by simp only [maxLen]; have := HLT.out; have := HI8.out; omega) (by have := HLT.out; have := HI8.out; omega) (by have := HG10.out.2.1.lt; omega) _ rfl ?_
        intro g2 cap2 w11 ho2 hg2 hat hgl
        have HST5 := Lib.hid (GW.step HG10.out HX10.out HV10.out ho2 hg2 hat HNW.out)
        have HBT : Hid (Blk w11 w4.heap.size 33 #[.int .i64 kk, .bool b4, .slice B4 l4.length c4, .int .u64 (q4 : Int), .string T4, .slice K4 n4 e4]) := Lib.hid ((hg2.block w4.heap.size HB10.out.lt fun e => by have h1 := (HXR.out.lt _ e.symm).2; have h2 := HK4.out.size; omega).trans HB10.out)
        clear ho2 hg2 hat hgl
        refine hK.out _ _ ?_ (fun hHeld => ?_)
        · (exact ⟨HS10.out.trans (HST5.out.2.2.1), HBT.out⟩)
        clear hK K
        try simp only [Act.put, List.setIfInBounds_toArray]
        refine wpAnyH_take (i := 14) (oi := ?o14x11) (v := ?v14x11) ?hi14x11 (by kernel_rfl) (by kernel_rfl) (by kernel_rfl) ?hQ14x11 ?hy14x11 hHeld ?rest14x11
        case hi14x11 => (simp only [List.getElem?_toArray, List.getElem?_cons_succ, List.getElem?_cons_zero]; rfl)
        case hQ14x11 => exact fun _ _ _ h => h
        case hy14x11 => (refine Or.inl ⟨by rfl, ?_⟩; intro W hSw; (try dsimp only at hSw); go_simp; (try with_reducible rfl))
        try simp only [Act.put]
        refine wpAnyH_done (by kernel_rfl) ?_ _
        simp only [lastQ]
        have d5 := HST5.out.1
        have dz := HST5.out.2.1
        have HG5 := Lib.hid HST5.out.2.2.2
        clear hHeld
        go_wp2_with fail
        exact ⟨⟨j + 2, i + 2, _, by go_num, by have := HLT.out; omega, by have := HLT.out; omega, by have := HLT.out; omega, by have := HLT.out; omega, by have := HI8.out; omega, HG5.out⟩, by have := HLT.out; simp [intOf]; omega⟩
      · go_wp2_with fail
        exact ⟨⟨j + 2, i, _, by go_num, by have := HLT.out; omega, by have := HLT.out; omega, by have := HLT.out; omega, by have := HLT.out; omega, by have := HI8.out; omega, HG6.out⟩, by have := HLT.out; simp [intOf]; omega⟩
    · have HJ := Lib.hid hij
      have HVVX := Lib.hid (HG.out.value (by decide) (by decide) (by have := HI8.out; omega) (fun _ => HI8.out.2))
      obtain ⟨K, c, rfl, hv⟩ := HVVX.out
      have HVV := Lib.hid hv
      have hst := run_storeVar_row (P := Tryz.prog) wr (w.heap.size + 1) 33 33 _ #[.int .i64 8, .bool false, .slice none 0 0, .int .u64 0, .string ⟨#[]⟩, .slice K i c] (HBZ.out.below HG.out.1) info_Vl rfl (by simp [Value.oneCell'])
      simp [go_sem] at hst
      obtain ⟨c0, c1, c2, c3, c4, c5⟩ : wr.cell? ⟨w.heap.size + 1 + 1, 0, none⟩ = some (.int .i64 8) ∧ wr.cell? ⟨w.heap.size + 1 + 1, 1, none⟩ = some (.bool false) ∧ wr.cell? ⟨w.heap.size + 1 + 1, 2, none⟩ = some (.slice none 0 0) ∧ wr.cell? ⟨w.heap.size + 1 + 1, 3, none⟩ = some (.int .u64 0) ∧ wr.cell? ⟨w.heap.size + 1 + 1, 4, none⟩ = some (.string ⟨#[]⟩) ∧ wr.cell? ⟨w.heap.size + 1 + 1, 5, none⟩ = some (.slice K i c) := ⟨HG.out.2.1.cell 0, HG.out.2.1.cell 1, HG.out.2.1.cell 2, HG.out.2.1.cell 3, HG.out.2.1.cell 4, HG.out.2.1.cell 5⟩
      have HEND : Hid (RetOG w (d + 1) 8 (.returned (.agg #[.int .i64 8, .bool false, .slice none 0 0, .int .u64 0, .string ⟨#[]⟩, .slice K i c])) (wr.setRow (w.heap.size + 1) #[.int .i64 8, .bool false, .slice none 0 0, .int .u64 0, .string ⟨#[]⟩, .slice K i c])) := Lib.hid
        ⟨⟨_, rfl, (HVV.out.stored (b := w.heap.size + 1) (fun c hc => by omega) _).weak (fun c hc => by omega)⟩, below_setRow (HK0.out.trans HG.out.1) (by omega) _⟩
      have HB9 := Lib.hid (setRow_heap _ _ _ #[.int .i64 8, .bool false, .slice none 0 0, .int .u64 0, .string ⟨#[]⟩, .slice K i c] _ _ (HBZ.out.below HG.out.1))
      by_cases hin : j + 1 < nv
      · have i1 : (j : Int) + 1 < (nv : Int) := by omega
        have i8 : ¬ (j : Int) < 16 := by omega
        clear hlt hi i0' hG hv hin hi8 hij hj2 hi2
        go_wp2_with fail
        exact bodyPost_blk rfl rfl HB9.out Tryz.underlying33 rfl (by exact info_Vl) rfl HEND.out
      · have i1 : ¬ (j : Int) + 1 < (nv : Int) := by omega
        clear hlt hi i0' hG hv hin hi8 hij hj2 hi2
        go_wp2_with fail
        exact bodyPost_blk rfl rfl HB9.out Tryz.underlying33 rfl (by exact info_Vl) rfl HEND.out
end Go.Proofs.YtoociokhldakbaaGreat
