/- Keys of made values. -/
import Derived.Test.YtoociokhldakbaaGreatOD
import Derived.OwnWalk
import Derived.Deep.DeepMust
import Derived.Deep.AppendLies
import Derived.Deep.RegionHeld3
import Derived.Orders
namespace Go.Proofs.YtoociokhldakbaaGreat
open Go.ChangeShapes Go.WideShapes Go.ChangeAt Go.RowKit
set_option linter.unusedVariables false
theorem info_grow : ∃ i0, Tryz.prog.info? 33 = some i0 ∧ i0.zero = some (.agg #[.int .i64 0, .bool false, .slice none 0 0, .int .u64 0, .string ⟨#[]⟩, .slice none 0 0]) ∧ i0.size = 6 ∧ i0.bytes = 88 := by
  have h : (Tryz.prog.info? 33).map (fun i => (i.zero, i.size, i.bytes)) = some (some (.agg #[.int .i64 0, .bool false, .slice none 0 0, .int .u64 0, .string ⟨#[]⟩, .slice none 0 0]), 6, 88) := by kernel_rfl
  obtain ⟨i0, h1, h2⟩ := Option.map_eq_some_iff.1 h
  simp only [Prod.mk.injEq] at h2
  exact ⟨i0, h1, h2.1, h2.2.1, h2.2.2⟩
/-- Key of a made value is one -/
abbrev KeP (d : Nat) : Prop := ∀ (F : Nat → Prop) (k : Int) (v : Value) (w : World), OG F w d k v → Calls Tryz.prog 13 #[v] w fun e w' => (∃ k' v', e = .returned v' ∧ OG (fun b => F b ∨ w.heap.size ≤ b) w' d k' v') ∧ Kept w w'
set_option maxRecDepth 100000 in
set_option maxHeartbeats 1000000 in
theorem Key_flat (d : Nat) (F : Nat → Prop) (k : Int) (hk6 : k < 6) (v : Value) (w : World) (hv : OG F w d k v) : Calls Tryz.prog 13 #[v] w fun e w' => (∃ k' v', e = .returned v' ∧ OG (fun b => F b ∨ w.heap.size ≤ b) w' d k' v') ∧ Kept w w' := by
  obtain ⟨bv, Av, cv, lv, qv, Tv, Kv, nv, ev, rfl, h1, h2, h3, h4, h5, h6, h7, h8, h9, h10, h11⟩ := hv
  have hsz : ∃ q : Nat, q ≤ Tv.size ∧ min (Tv.size : Int) 60 = (q : Int) := ⟨min Tv.size 60, by omega, by omega⟩
  obtain ⟨q, hq1, hq2⟩ := hsz
  have hq3 : (q : Int) ≤ (Tv.size : Int) := by omega
  have HV : Hid (∀ (w' : World) (T : ByteArray), Kept w w' → OG (fun b => F b ∨ w.heap.size ≤ b) w' d k (.agg #[.int .i64 k, .bool bv, .slice Av lv.length cv, .int .u64 (qv : Int), .string T, .slice Kv nv ev])) := Lib.hid fun w' T hk =>
    OG.below (w := w) (OG.weak (F := F) ⟨bv, Av, cv, lv, qv, T, Kv, nv, ev, rfl, h1, h2, h3, h4, h5, h6, h7, h8, h9, h10, h11⟩ fun b hb => .inl hb) hk
  clear h1 h2 h3 h4 h5 h6 h7 h8 h9 h10 h11
  go_enter Tryz.func13, Tryz.ntmps13
  go_wp2_with fail
  exact bodyPost_blk rfl rfl clean_end.2 Tryz.underlying33 rfl (by exact info_Vl) rfl ⟨⟨k, _, rfl, HV.out _ _ clean_end.1⟩, clean_end.1⟩
set_option maxRecDepth 100000 in
set_option maxHeartbeats 2000000 in
theorem Key_kids (d : Nat) (hK : ∀ d', d = d' + 1 → KeP d') (F : Nat → Prop) (k : Int) (hk6 : ¬ k < 6) (v : Value) (w : World) (hv : OG F w d k v) : Calls Tryz.prog 13 #[v] w fun e w' => (∃ k' v', e = .returned v' ∧ OG (fun b => F b ∨ w.heap.size ≤ b) w' d k' v') ∧ Kept w w' := by
  obtain ⟨bv, Av, cv, lv, qv, Tv, Kv, nv, ev, rfl, _, _, _, _, _, _, _, _, hnv, _, hkv⟩ := hv
  obtain ⟨i0, hi0, hi1, hi2, hi3⟩ := info_grow
  have HI : Hid (Tryz.prog.info? 33 = some i0 ∧ i0.zero = some (.agg #[.int .i64 0, .bool false, .slice none 0 0, .int .u64 0, .string ⟨#[]⟩, .slice none 0 0]) ∧ i0.size = 6 ∧ i0.bytes = 88) := Lib.hid ⟨hi0, hi1, hi2, hi3⟩
  obtain ⟨W, hW⟩ : ∃ W, W = ((w.alloc (.cells #[.int .i64 k, .bool bv, .slice Av lv.length cv, .int .u64 (qv : Int), .string Tv, .slice Kv nv ev] 33)).alloc (.cells #[.int .i64 0, .bool false, .slice none 0 0, .int .u64 0, .string ⟨#[]⟩, .slice none 0 0] 33)) := ⟨_, rfl⟩
  have hz : W.heap.size = w.heap.size + 1 + 1 := by rw [hW]; simp
  obtain ⟨hk0, hbx, hbz⟩ := two_boxes w #[.int .i64 k, .bool bv, .slice Av lv.length cv, .int .u64 (qv : Int), .string Tv, .slice Kv nv ev] #[.int .i64 0, .bool false, .slice none 0 0, .int .u64 0, .string ⟨#[]⟩, .slice none 0 0] 33 33
  rw [← hW] at hk0 hbx hbz
  have HX : Hid (KG (fun c => F c ∧ c < w.heap.size) W d Kv nv ev) := Lib.hid (KG.move (w := w) (fun b hb hl => ⟨hb, hl⟩) (fun b _ hl => hk0.block b hl) d Kv nv ev hkv)
  have HBX := Lib.hid hbx
  have HBZ := Lib.hid hbz
  have HK0 := Lib.hid hk0
  have HX0 : Hid (d = 0 → nv = 0) := Lib.hid (fun e => by subst e; exact hkv)
  have HKE := Lib.hid hK
  have HN := Lib.hid hnv
  have HZ := Lib.hid hz
  have ST : Hid (GW W (fun c => (F c ∧ c < w.heap.size) ∨ w.heap.size + 1 + 1 + 1 ≤ c) (w.heap.size + 1 + 1) 7 (W.alloc (.cells #[.int .i64 7, .bool false, .slice none 0 0, .int .u64 0, .string ⟨#[]⟩, .slice none 0 0] 33)) (d - 1) 0 (.slice none 0 0)) := Lib.hid (by rw [← hz]; exact GW.start W _ 7 (d - 1) (fun c hc => by omega))
  have hnI : (nv : Int) ≤ 16 := by omega
  clear hi0 hi1 hi2 hi3 hkv hk0 hbx hbz hK hnv hz
  subst hW
  go_enter Tryz.func13, Tryz.ntmps13
  go_wp2_with fail
  generalize ((w.alloc (.cells #[.int .i64 k, .bool bv, .slice Av lv.length cv, .int .u64 (qv : Int), .string Tv, .slice Kv nv ev] 33)).alloc (.cells #[.int .i64 0, .bool false, .slice none 0 0, .int .u64 0, .string ⟨#[]⟩, .slice none 0 0] 33)) = W at *
  go_loopw [4] (fun iv wr => ∃ (i : Nat) (sv : Value), iv = .int .i64 (i : Int) ∧ i ≤ nv ∧ GW W (fun c => (F c ∧ c < w.heap.size) ∨ w.heap.size + 1 + 1 + 1 ≤ c) (w.heap.size + 1 + 1) 7 wr (d - 1) i sv) (fun iv _ => 20 - (intOf iv).toNat)
  case atStart => exact ⟨0, _, rfl, by omega, ST.out⟩
  case round =>
    obtain ⟨i, sv, rfl, hi, hG⟩ := hrel
    have HG := Lib.hid hG
    have t5 := (HBX.out.below HG.out.1).cell 5
    have i0' : (0 : Int) ≤ (i : Int) := by omega
    by_cases hlt : i < nv
    · obtain ⟨d', g, k', v', ed, rfl, ha, ho⟩ := (HX.out.below HG.out.1).get hlt
      have hgl : g < w.heap.size + 1 + 1 + 1 := by
        have := ((HX.out).get hlt)
        obtain ⟨_, g', _, _, _, eg, ha', _⟩ := this
        injection eg with eg
        injection eg with eg
        subst eg
        have := ha'.lt
        have := HZ.out
        omega
      obtain ⟨u0, u1, u2, u3, u4, u5, rfl, h0, h1, h2, h3, h4, h5⟩ := ha
      rw [Nat.zero_add] at h0 h1 h2 h3 h4 h5
      have A0 := Lib.hid h0
      have A1 := Lib.hid h1
      have A2 := Lib.hid h2
      have A3 := Lib.hid h3
      have A4 := Lib.hid h4
      have A5 := Lib.hid h5
      have HGL : Hid (g < w.heap.size + 1 + 1 + 1) := Lib.hid hgl
      have HC5 : Hid (wr.cell? ⟨w.heap.size + 1 + 1, 5, none⟩ = some sv ∧ wr.cell? ⟨w.heap.size, 5, none⟩ = some (.slice (some ⟨g, 0, none⟩) nv ev)) := Lib.hid ⟨HG.out.2.1.cell 5, t5⟩
      have HO := Lib.hid ho
      have HED := Lib.hid ed
      have i1 : (i : Int) < (nv : Int) := by omega
      have HLT := Lib.hid hlt
      clear ho hG hlt ed h0 h1 h2 h3 h4 h5 hgl hi
      go_wp2_with fail
      refine wp_region_lastL _ _ _ (by simp only [List.dropLast]; rfl) (by simp only [List.getLast?_cons_cons, List.getLast?_singleton]; rfl) (fun X : World => Same (w.heap.size + 1 + 1 + 1) wr X) (by kernel_rfl) (by kernel_rfl) (fun _ _ => rfl) (fun hHeld => ?_)
      refine wpAnyH_take (i := 0) (oi := ?o0x0) (v := ?v0x0) ?hi0x0 (by kernel_rfl) (by kernel_rfl) (by kernel_rfl) ?hQ0x0 ?hy0x0 hHeld ?rest0x0
      case hi0x0 => (simp only [List.getElem?_toArray, List.getElem?_cons_zero]; rfl)
      case hQ0x0 => exact fun _ _ _ h => h
      case hy0x0 => (refine Or.inl ⟨by rfl, ?_⟩; intro W hSw; (try dsimp only at hSw); go_simp; (try with_reducible rfl))
      try simp only [Act.put, List.setIfInBounds_toArray, List.set_cons_zero, List.set_cons_succ]
      refine wpAnyH_take (i := 1) (oi := ?o1x1) (v := ?v1x1) ?hi1x1 (by kernel_rfl) (by kernel_rfl) (by kernel_rfl) ?hQ1x1 ?hy1x1 hHeld ?rest1x1
      case hi1x1 => (simp only [List.getElem?_toArray, List.getElem?_cons_succ, List.getElem?_cons_zero]; rfl)
      case hQ1x1 => exact fun _ _ _ h => h
      case hy1x1 => (refine Or.inl ⟨by rfl, ?_⟩; intro W hSw; (try dsimp only at hSw); have s5 := hSw.cell (by dsimp only; omega) HC5.out.1; have t5 := hSw.cell (by dsimp only; omega) HC5.out.2; go_simp; (try with_reducible rfl))
      try simp only [Act.put, List.setIfInBounds_toArray, List.set_cons_zero, List.set_cons_succ]
      refine wpAnyH_take (i := 2) (oi := ?o2x2) (v := ?v2x2) ?hi2x2 (by kernel_rfl) (by kernel_rfl) (by kernel_rfl) ?hQ2x2 ?hy2x2 hHeld ?rest2x2
      case hi2x2 => (simp only [List.getElem?_toArray, List.getElem?_cons_succ, List.getElem?_cons_zero]; rfl)
      case hQ2x2 => exact fun _ _ _ h => h
      case hy2x2 => (refine Or.inl ⟨by rfl, ?_⟩; intro W hSw; (try dsimp only at hSw); go_simp; (try with_reducible rfl))
      try simp only [Act.put, List.setIfInBounds_toArray, List.set_cons_zero, List.set_cons_succ]
      refine wpAnyH_take (i := 3) (oi := ?o3x3) (v := ?v3x3) ?hi3x3 (by kernel_rfl) (by kernel_rfl) (by kernel_rfl) ?hQ3x3 ?hy3x3 hHeld ?rest3x3
      case hi3x3 => (simp only [List.getElem?_toArray, List.getElem?_cons_succ, List.getElem?_cons_zero]; rfl)
      case hQ3x3 => exact fun _ _ _ h => h
      case hy3x3 => (refine Or.inl ⟨by rfl, ?_⟩; intro W hSw; (try dsimp only at hSw); have s5 := hSw.cell (by dsimp only; omega) HC5.out.1; have t5 := hSw.cell (by dsimp only; omega) HC5.out.2; go_simp; (try with_reducible rfl))
      try simp only [Act.put, List.setIfInBounds_toArray, List.set_cons_zero, List.set_cons_succ]
      refine wpAnyH_take (i := 4) (oi := ?o4x4) (v := ?v4x4) ?hi4x4 (by kernel_rfl) (by kernel_rfl) (by kernel_rfl) ?hQ4x4 ?hy4x4 hHeld ?rest4x4
      case hi4x4 => (simp only [List.getElem?_toArray, List.getElem?_cons_succ, List.getElem?_cons_zero]; rfl)
      case hQ4x4 => exact fun _ _ _ h => h
      case hy4x4 => (refine Or.inl ⟨by rfl, ?_⟩; intro W hSw; (try dsimp only at hSw); go_simp; (try with_reducible rfl))
      try simp only [Act.put, List.setIfInBounds_toArray, List.set_cons_zero, List.set_cons_succ]
      refine wpAnyH_take (i := 5) (oi := ?o5x5) (v := ?v5x5) ?hi5x5 (by kernel_rfl) (by kernel_rfl) (by kernel_rfl) ?hQ5x5 ?hy5x5 hHeld ?rest5x5
      case hi5x5 => (simp only [List.getElem?_toArray, List.getElem?_cons_succ, List.getElem?_cons_zero]; rfl)
      case hQ5x5 => exact fun _ _ _ h => h
      case hy5x5 => (refine Or.inl ⟨by rfl, ?_⟩; intro W hSw; (try dsimp only at hSw); go_simp; (try with_reducible rfl))
      try simp only [Act.put, List.setIfInBounds_toArray, List.set_cons_zero, List.set_cons_succ]
      refine wpAnyH_take (i := 6) (oi := ?o6x6) (v := ?v6x6) ?hi6x6 (by kernel_rfl) (by kernel_rfl) (by kernel_rfl) ?hQ6x6 ?hy6x6 hHeld ?rest6x6
      case hi6x6 => (simp only [List.getElem?_toArray, List.getElem?_cons_succ, List.getElem?_cons_zero]; rfl)
      case hQ6x6 => exact fun _ _ _ h => h
      case hy6x6 => (refine Or.inl ⟨by rfl, ?_⟩; intro W hSw; (try dsimp only at hSw); have a0 := hSw.cell HGL.out A0.out; have a1 := hSw.cell HGL.out A1.out; have a2 := hSw.cell HGL.out A2.out; have a3 := hSw.cell HGL.out A3.out; have a4 := hSw.cell HGL.out A4.out; have a5 := hSw.cell HGL.out A5.out; go_simp; (try with_reducible rfl))
      try simp only [Act.put, List.setIfInBounds_toArray, List.set_cons_zero, List.set_cons_succ]
      refine wpAnyH_ready (rs := [7]) (by kernel_rfl) (by simp) ?_
      refine (AllReadyH.cons rfl (fun K hK => ?_) AllReadyH.nil)
      go_simp
      (with_reducible refine Calls.mono (HKE.out d' HED.out _ _ _ _ (HO.out.below (by go_grown))) ?_)
      rintro e w3 ⟨⟨kk, v3, rfl, hv3⟩, hk3⟩
      have hk3a : Kept wr w3 := ⟨hk3.os, hk3.tape, hk3.output, hk3.size, hk3.block⟩
      have HV3 := Lib.hid hv3
      have HK3 := Lib.hid hk3a
      have HS3 : Hid (Same (w.heap.size + 1 + 1 + 1) wr w3) := Lib.hid (Same.of_kept hk3a (by have := HG.out.2.1.lt; omega))
      obtain ⟨b3, B3, c3, l3, q3, T3, K3, n3, e3, rfl, _⟩ := hv3
      clear hk3 hk3a
      refine hK.out _ _ ?_ (fun hHeld => ?_)
      · (exact HS3.out)
      clear hK K
      try simp only [Act.put, List.setIfInBounds_toArray, List.set_cons_zero, List.set_cons_succ]
      refine wpAnyH_ready (rs := [8]) (by kernel_rfl) (by simp) ?_
      refine (AllReadyH.cons rfl (fun K hK => ?_) AllReadyH.nil)
      go_simp
      refine hK.out _ _ ?_ (fun hHeld => ?_)
      · (exact HS3.out.trans (Same.of_kept ((Below.refl _ w3).alloc (Nat.le_refl _) _) (by have := HG.out.2.1.lt; have := HK3.out.size; omega)))
      clear hK K
      try simp only [Act.put, List.setIfInBounds_toArray, List.set_cons_zero, List.set_cons_succ]
      have HXR := Lib.hid HG.out.2.2.1.choose_spec.1
      have hk4 : Kept wr (w3.alloc (.cells #[.int .i64 kk, .bool b3, .slice B3 l3.length c3, .int .u64 (q3 : Int), .string T3, .slice K3 n3 e3] 33)) := HK3.out.trans ((Below.refl _ w3).alloc (Nat.le_refl _) _)
      have HG4 := Lib.hid (HG.out.below hk4)
      obtain ⟨xs, hx4, hv4⟩ := HG4.out.2.2.1
      have HX4 := Lib.hid hx4
      have HV4 := Lib.hid hv4
      have HS4 : Hid (Same (w.heap.size + 1 + 1 + 1) wr (w3.alloc (.cells #[.int .i64 kk, .bool b3, .slice B3 l3.length c3, .int .u64 (q3 : Int), .string T3, .slice K3 n3 e3] 33))) := Lib.hid (Same.of_kept hk4 (by have := HG.out.2.1.lt; omega))
      have HNW : Hid (∀ j, j < 1 → ∃ k v, Six [.int .i64 kk, .bool b3, .slice B3 l3.length c3, .int .u64 (q3 : Int), .string T3, .slice K3 n3 e3] (j * 6) v ∧ OG (fun c => (fun c => (F c ∧ c < w.heap.size) ∨ w.heap.size + 1 + 1 + 1 ≤ c) c ∧ sv.ownBlock ≠ some c) (w3.alloc (.cells #[.int .i64 kk, .bool b3, .slice B3 l3.length c3, .int .u64 (q3 : Int), .string T3, .slice K3 n3 e3] 33)) (d - 1) k v) := Lib.hid fun j hj => by
        obtain rfl : j = 0 := by omega
        refine ⟨kk, _, six_lit _ _ _ _ _ _, ?_⟩
        have e1 : d - 1 = d' := by have := HED.out; omega
        rw [e1]
        refine HV3.out.apart (fun c hc hl => ?_) ((Below.refl _ w3).alloc (Nat.le_refl _) _)
        have hlt := HXR.out.lt
        have hzz := HG.out.2.1.lt
        rcases hc with hc | hc
        · exact ⟨.inl hc, fun e => by have := (hlt c e).1; omega⟩
        · have hc' : wr.heap.size ≤ c := hc
          exact ⟨.inr (by omega), fun e => by have := (hlt c e).2; omega⟩
      have HLN : Hid (i < 16) := Lib.hid (by have := HLT.out; have := HN.out; omega)
      clear hk4 hx4 hv4
      refine wpAnyH_ready (rs := [9]) (by kernel_rfl) (by simp) ?_
      refine (AllReadyH.cons rfl (fun K hK => ?_) AllReadyH.nil)
      refine step_append_lies _ rfl (.tmp 26) (.tmp 33) 31 rfl (w.heap.size + 1 + 1 + 1) 33 i0 (.agg #[.int .i64 0, .bool false, .slice none 0 0, .int .u64 0, .string ⟨#[]⟩, .slice none 0 0]) 6 88 Tryz.underlying31 HI.out.1 HI.out.2.1 HI.out.2.2.1 HI.out.2.2.2 rfl (by omega) _ i _ rfl HX4.out ⟨w3.heap.size, 0, none⟩ 1 1 [.int .i64 kk, .bool b3, .slice B3 l3.length c3, .int .u64 (q3 : Int), .string T3, .slice K3 n3 e3] rfl rfl (cells_new w3 _ _) (by intro u hu; simp at hu; rcases hu with rfl | rfl | rfl | rfl | rfl | rfl <;> rfl) (by omega) (by simp only [maxLen]; have := HLN.out; omega) (by have := HLN.out; omega) (by have := HG4.out.2.1.lt; omega) _ rfl ?_
      intro g2 cap2 w5 ho2 hg2 hat hgl
      have HST5 := Lib.hid (GW.step HG4.out HX4.out HV4.out ho2 hg2 hat HNW.out)
      clear ho2 hg2 hat hgl
      refine hK.out _ _ ?_ (fun hHeld => ?_)
      · (exact HS4.out.trans (HST5.out.2.2.1))
      clear hK K
      try simp only [Act.put, List.setIfInBounds_toArray]
      refine wpAnyH_take (i := 10) (oi := ?o10x7) (v := ?v10x7) ?hi10x7 (by kernel_rfl) (by kernel_rfl) (by kernel_rfl) ?hQ10x7 ?hy10x7 hHeld ?rest10x7
      case hi10x7 => (simp only [List.getElem?_toArray, List.getElem?_cons_succ, List.getElem?_cons_zero]; rfl)
      case hQ10x7 => exact fun _ _ _ h => h
      case hy10x7 => (refine Or.inl ⟨by rfl, ?_⟩; intro W hSw; (try dsimp only at hSw); go_simp; (try with_reducible rfl))
      try simp only [Act.put]
      refine wpAnyH_done (by kernel_rfl) ?_ _
      simp only [lastQ]
      have d5 := HST5.out.1
      have dz := HST5.out.2.1
      have HG5 := Lib.hid HST5.out.2.2.2
      clear hHeld
      go_wp2_with fail
      exact ⟨⟨i + 1, _, by go_num, by have := HLT.out; omega, HG5.out⟩, by have := HLN.out; simp [intOf]; omega⟩
    · have i1 : ¬ (i : Int) < (nv : Int) := by omega
      have hin : i = nv := by omega
      subst hin
      clear hlt hi i1
      have i1 : ¬ (i : Int) < (i : Int) := by omega
      clear hG
      obtain ⟨K, c, rfl, hv⟩ := HG.out.value (by decide) (by decide) HN.out (fun h => by omega)
      have HVV := Lib.hid hv
      clear hv
      have hst := run_storeVar_row (P := Tryz.prog) wr (w.heap.size + 1) 33 33 _ #[.int .i64 7, .bool false, .slice none 0 0, .int .u64 0, .string ⟨#[]⟩, .slice K i c] (HBZ.out.below HG.out.1) info_Vl rfl (by simp [Value.oneCell'])
      simp [go_sem] at hst
      obtain ⟨c0, c1, c2, c3, c4, c5⟩ : wr.cell? ⟨w.heap.size + 1 + 1, 0, none⟩ = some (.int .i64 7) ∧ wr.cell? ⟨w.heap.size + 1 + 1, 1, none⟩ = some (.bool false) ∧ wr.cell? ⟨w.heap.size + 1 + 1, 2, none⟩ = some (.slice none 0 0) ∧ wr.cell? ⟨w.heap.size + 1 + 1, 3, none⟩ = some (.int .u64 0) ∧ wr.cell? ⟨w.heap.size + 1 + 1, 4, none⟩ = some (.string ⟨#[]⟩) ∧ wr.cell? ⟨w.heap.size + 1 + 1, 5, none⟩ = some (.slice K i c) := ⟨HG.out.2.1.cell 0, HG.out.2.1.cell 1, HG.out.2.1.cell 2, HG.out.2.1.cell 3, HG.out.2.1.cell 4, HG.out.2.1.cell 5⟩
      go_wp2_with fail
      refine bodyPost_blk (cs := #[.int .i64 7, .bool false, .slice none 0 0, .int .u64 0, .string ⟨#[]⟩, .slice K i c]) rfl rfl (setRow_heap _ _ _ _ _ _ (HBZ.out.below HG.out.1)) Tryz.underlying33 rfl (by exact info_Vl) rfl ?_
      refine ⟨⟨7, _, rfl, ?_⟩, below_setRow (HK0.out.trans HG.out.1) (by omega) _⟩
      have hst2 := (HVV.out.stored (b := w.heap.size + 1) (fun c hc => by omega) #[.int .i64 7, .bool false, .slice none 0 0, .int .u64 0, .string ⟨#[]⟩, .slice K i c]).weak (F' := fun b => F b ∨ w.heap.size ≤ b) (fun c hc => by
        rcases hc with (hc | hc) | hc
        · exact .inl hc.1
        · exact .inr (by omega)
        · exact .inr (by omega))
      cases d with
      | succ d => exact hst2
      | zero =>
        have e0 : i = 0 := HX0.out rfl
        subst e0
        exact hst2.nokids 0
theorem Key_of (d : Nat) (hK : ∀ d', d = d' + 1 → KeP d') : KeP d := fun F k v w hv => by
  by_cases h : k < 6
  · exact Key_flat d F k h v w hv
  · exact Key_kids d hK F k h v w hv
theorem Key_any : ∀ d, KeP d
  | 0 => Key_of 0 fun d' e => by cases e
  | d + 1 => Key_of (d + 1) fun d' e => by
    have e2 : d' = d := by omega
    rw [e2]
    exact Key_any d
end Go.Proofs.YtoociokhldakbaaGreat
