/- spec.Pokes. -/
import Derived.Test.YtoociokhldakbaaGreatOS
import Derived.OwnWalk
import Derived.Deep.DeepMust
import Derived.Deep.AppendLies
import Derived.Deep.RegionHeld3
import Derived.Orders
namespace Go.Proofs.YtoociokhldakbaaGreat
open Go.ChangeShapes Go.WideShapes Go.ChangeAt Go.RowKit
set_option linter.unusedVariables false
theorem info_Pk : ∃ i0, Tryz.prog.info? 35 = some i0 ∧ i0.zero = some (.agg #[.int .i64 0, .int .i64 0, .bool false, .slice none 0 0, .int .u64 0, .string ⟨#[]⟩, .slice none 0 0, .int .i64 0, .bool false, .slice none 0 0, .int .u64 0, .string ⟨#[]⟩, .slice none 0 0]) ∧ i0.size = 13 ∧ i0.bytes = 184 := by
  have h : (Tryz.prog.info? 35).map (fun i => (i.zero, i.size, i.bytes)) = some (some (.agg #[.int .i64 0, .int .i64 0, .bool false, .slice none 0 0, .int .u64 0, .string ⟨#[]⟩, .slice none 0 0, .int .i64 0, .bool false, .slice none 0 0, .int .u64 0, .string ⟨#[]⟩, .slice none 0 0]), 13, 184) := by kernel_rfl
  obtain ⟨i0, h1, h2⟩ := Option.map_eq_some_iff.1 h
  simp only [Prod.mk.injEq] at h2
  exact ⟨i0, h1, h2.1, h2.2.1, h2.2.2⟩
/-- what Pokes gives back -/
def RetPK (n : Nat) (kk : Nat → Int) (w : World) (e : Ending) (w' : World) : Prop := (∃ (sv : Value) (m : Nat), e = .returned sv ∧ m ≤ 60 ∧ (m = 0 → sv = .slice none 0 0) ∧ GrZ (PK13 n kk) 13 35 (fun c => w.heap.size ≤ c) w.heap.size w' m sv) ∧ Kept w w'
/-- a poke as it was given: its node, and two values readable two levels down -/
def PIn (w : World) (LA : Option Addr) (i : Nat) : Prop :=
  ∃ (g o : Nat) (N x y : Int) (a0 a1 a2 a3 a4 a5 b0 b1 b2 b3 b4 b5 : Value), LA = some ⟨g, o, none⟩ ∧ (∀ j u, [Value.int .i64 N, a0, a1, a2, a3, a4, a5, b0, b1, b2, b3, b4, b5][j]? = some u → w.cell? ⟨g, o + i * 13 + j, none⟩ = some u) ∧ RV w 2 x (.agg #[a0, a1, a2, a3, a4, a5]) ∧ RV w 2 y (.agg #[b0, b1, b2, b3, b4, b5])
theorem PIn.below {w w' : World} {LA : Option Addr} {i : Nat} (h : PIn w LA i) (hk : Kept w w') : PIn w' LA i := by
  obtain ⟨g, o, N, x, y, a0, a1, a2, a3, a4, a5, b0, b1, b2, b3, b4, b5, e, hc, h1, h2⟩ := h
  exact ⟨g, o, N, x, y, a0, a1, a2, a3, a4, a5, b0, b1, b2, b3, b4, b5, e, fun j u hj => (hk.cell (block_lt_of_cell (hc j u hj))).trans (hc j u hj), h1.below hk, h2.below hk⟩
set_option maxRecDepth 100000 in
set_option maxHeartbeats 4000000 in
theorem Pokes_any (gb n nc lm lc : Nat) (root : Int) (LA : Option Addr) (kk : Nat → Int) (ng : Nat → Bool) (mg : Nat → List Nat) (bt : Nat → Nat) (tx : Nat → ByteArray) (ks : Nat → List Nat) (hok : GOk n kk mg bt ks) (w : World) (hg : GM w gb n kk ng mg bt tx ks) (hlm : lm ≤ 9223372036854775807) (hl : ∀ i, i < lm → PIn w LA i) :
    Calls Tryz.prog 6 #[.agg #[.slice (some ⟨gb, 0, none⟩) n nc, .int .i64 root], .slice LA lm lc] w (RetPK n kk w) := by
  obtain ⟨i0, hi0, hi1, hi2, hi3⟩ := info_int
  have HI : Hid (Tryz.prog.info? 3 = some i0 ∧ i0.zero = some (.int .i64 0) ∧ i0.size = 1 ∧ i0.bytes = 8) := Lib.hid ⟨hi0, hi1, hi2, hi3⟩
  have hk0 : Kept w (w.alloc (.cells #[.slice (some ⟨gb, 0, none⟩) n nc, .int .i64 root] 24)) := (Below.refl _ _).alloc (Nat.le_refl _) _
  have HBX := Lib.hid (Blk.new w 24 #[.slice (some ⟨gb, 0, none⟩) n nc, .int .i64 root])
  have HGM := Lib.hid (hg.below hk0)
  have HK0 := Lib.hid hk0
  have HOK := Lib.hid hok
  have HL : Hid (∀ i, i < lm → PIn (w.alloc (.cells #[.slice (some ⟨gb, 0, none⟩) n nc, .int .i64 root] 24)) LA i) := Lib.hid fun i hi => (hl i hi).below hk0
  have hnI : (n : Int) ≤ 12 := by have := hok.size; omega
  have hlI : (lm : Int) ≤ 9223372036854775807 := by omega
  clear hi0 hi1 hi2 hi3 hk0 hg hok hl
  go_enter Tryz.func6, Tryz.ntmps6
  go_wp2_with fail
  generalize w.alloc (.cells #[.slice (some ⟨gb, 0, none⟩) n nc, .int .i64 root] 24) = W at *
  go_loopw [5, 6] (fun sv iv wr => ∃ (i : Nat) (os : List Nat), iv = .int .i64 (i : Int) ∧ i ≤ n ∧ os.length ≤ i ∧ (∀ d, d ∈ os → d < n ∧ kk d = 6) ∧ Kept W wr ∧ wr.ownsRow W.heap.size 3 1 sv os.length (i64s os)) (fun _ iv _ => 20 - (intOf iv).toNat)
  case atStart => exact ⟨0, [], rfl, by omega, by simp, fun d hd => (by cases hd), Below.refl _ _, World.ownsRow_nil _ _ _ _⟩
  case round =>
    obtain ⟨i, os, rfl, hi, hos, hd, hkW, hown⟩ := hrel
    have HKW := Lib.hid hkW
    have HOS := Lib.hid (And.intro hos hd)
    have t5 := (HBX.out.below hkW).cell 0
    have i0' : (0 : Int) ≤ (i : Int) := by omega
    by_cases hlt : i < n
    · obtain ⟨MA, mc, KA, kc, c0, _⟩ := HGM.out.below hkW i hlt
      have i1 : (i : Int) < (n : Int) := by omega
      have HLT := Lib.hid hlt
      have HK7 := Lib.hid (HOK.out.kind i hlt)
      by_cases h6 : kk i = 6
      · rw [h6] at c0
        have hka : Kept wr (wr.alloc (.cells #[.int .i64 (i : Int)] 3)) := (Below.refl _ _).alloc (Nat.le_refl _) _
        have HOA := Lib.hid (hown.kept (only_of_kept hka none) (by cases u5.ownBlock with | none => exact .inl rfl | some a => exact .inr (by simp)))
        have HKA := Lib.hid (hkW.trans hka)
        have H6 := Lib.hid h6
        clear hka hkW hown hd hos hi hlt h6
        go_wp2_with (at_builtin; go_must (refine wpList_append_lies _ rfl (.tmp 33) (.tmp 35) 43 rfl W.heap.size 3 i0 (.int .i64 0) 1 8 Tryz.underlying43 HI.out.1 HI.out.2.1 HI.out.2.2.1 HI.out.2.2.2 rfl (by omega) _ os.length _ rfl HOA.out ⟨wr.heap.size, 0, none⟩ 1 1 [.int .i64 (i : Int)] rfl rfl (cell_one_new _ _ _) (by intro x hx; simp at hx; subst hx; rfl) (by omega) (by have := HOS.out.1; have := HLT.out; have := HOK.out.size; simp only [maxLen]; omega) (by have := HOS.out.1; have := HLT.out; have := HOK.out.size; omega) (by have := HKA.out.size; omega) _ rfl ?_); intro g2 cap2 w5 ho2 hg2 hat hgl; have HO2 := Lib.hid ho2; have HG2 := Lib.hid hg2; clear ho2 hg2 hat hgl)
        exact ⟨⟨i + 1, os ++ [i], by go_num, by have := HLT.out; omega, by have := HOS.out.1; simp; omega, fun d hd => by
          rcases List.mem_append.1 hd with hd | hd
          · exact HOS.out.2 d hd
          · obtain rfl : d = i := by simpa using hd
            exact ⟨HLT.out, H6.out⟩, own_kept HKA.out HOA.out (Nat.le_refl _) HG2.out, by
          have h1 := HO2.out
          rw [show i64s (os ++ [i]) = i64s os ++ [.int .i64 (i : Int)] by simp [i64s], show (os ++ [i]).length = os.length + 1 by simp]
          exact h1⟩, by have := HLT.out; have := HOK.out.size; simp [intOf]; omega⟩
      · have n6 : (kk i == 6) = false := by simpa using h6
        have n8 : (kk i == 8) = false := by have := HK7.out; simp; omega
        have n9 : (kk i == 9) = false := by have := HK7.out; simp; omega
        have HOWN := Lib.hid hown
        clear hkW hown hd hos hi hlt h6
        generalize kk i = k0 at *
        go_wp2_with fail
        exact ⟨⟨i + 1, os, by go_num, by have := HLT.out; omega, by have := HOS.out.1; omega, HOS.out.2, HKW.out, HOWN.out⟩, by have := HLT.out; have := HOK.out.size; simp [intOf]; omega⟩
    · have i1 : ¬ (i : Int) < (n : Int) := by omega
      have HIN := Lib.hid hi
      have HOWN := Lib.hid hown
      clear hkW hown hd hos hi hlt
      go_wp2_with fail
      obtain ⟨OA, oc, eo, hsl, hfr⟩ := own_sl (show wr.ownsRow W.heap.size 3 1 u5 (i64s os).length (i64s os) by have := HOWN.out; rw [show (i64s os).length = os.length by simp [i64s]]; exact this)
      rw [show (i64s os).length = os.length by simp [i64s]] at eo
      subst eo
      have HSO := Lib.hid (And.intro hsl hfr)
      have hol : (os.length : Int) ≤ 12 := by have := HOS.out.1; have := HIN.out; omega
      have holn : os.length ≤ 12 := by have := HOS.out.1; have := HIN.out; omega
      have HOL := Lib.hid holn
      clear hsl hfr HOWN holn
      obtain ⟨j0, hj0, hj1, hj2, hj3⟩ := info_Pk
      have HJ : Hid (Tryz.prog.info? 35 = some j0 ∧ j0.zero = some (.agg #[.int .i64 0, .int .i64 0, .bool false, .slice none 0 0, .int .u64 0, .string ⟨#[]⟩, .slice none 0 0, .int .i64 0, .bool false, .slice none 0 0, .int .u64 0, .string ⟨#[]⟩, .slice none 0 0]) ∧ j0.size = 13 ∧ j0.bytes = 184) := Lib.hid ⟨hj0, hj1, hj2, hj3⟩
      clear hj0 hj1 hj2 hj3 t5 i0' i1
      obtain ⟨wo, hwo⟩ : ∃ wo, wo = wr := ⟨_, rfl⟩
      subst hwo
      go_loopw [8, 9] (fun sv iv wr => ∃ (j : Nat), iv = .int .i64 (j : Int) ∧ j ≤ lm ∧ j ≤ 60 ∧ (j = 0 → sv = .slice none 0 0) ∧ Kept wo wr ∧ GrZ (PK13 n kk) 13 35 (fun c => wo.heap.size ≤ c) wo.heap.size wr j sv) (fun _ iv _ => 70 - (intOf iv).toNat)
      case atStart => exact ⟨0, rfl, by omega, by omega, fun _ => rfl, Below.refl _ _, GrZ.start _ _ _ _ _ _⟩
      case round =>
        obtain ⟨j, rfl, hj, hj60, hnil, hkj, hgr⟩ := hrel
        have HNIL := Lib.hid hnil
        clear hnil
        have HKJ := Lib.hid hkj
        have HGR := Lib.hid hgr
        obtain ⟨SA, sc, esv⟩ := hgr.slice
        subst esv
        have j0' : (0 : Int) ≤ (j : Int) := by omega
        by_cases hlt : j < lm ∧ j < 60 ∧ 0 < os.length
        · have j1 : (j : Int) < (lm : Int) := by omega
          have j2 : (j : Int) < 60 := by omega
          have j3 : (0 : Int) < (os.length : Int) := by omega
          have HLT := Lib.hid hlt
          obtain ⟨g, oo, Nv, x, y, a0, a1, a2, a3, a4, a5, b0, b1, b2, b3, b4, b5, rfl, hc, hra, hrb⟩ := (HL.out j hlt.1)
          have HRA := Lib.hid (hra.below (HKW.out.trans HKJ.out))
          have HRB := Lib.hid (hrb.below (HKW.out.trans HKJ.out))
          have hgl : g < wo.heap.size := by
            have h1 := block_lt_of_cell (hc 0 _ rfl)
            have := HKW.out.size
            simp only at h1
            omega
          have hcc : ∀ q u, [Value.int .i64 Nv, a0, a1, a2, a3, a4, a5, b0, b1, b2, b3, b4, b5][q]? = some u → wr.cell? ⟨g, oo + j * 13 + q, none⟩ = some u := fun q u hq => ((HKW.out.trans HKJ.out).cell (block_lt_of_cell (hc q u hq))).trans (hc q u hq)
          have HCC := Lib.hid hcc
          have HGL := Lib.hid hgl
          obtain ⟨og, oo2, rfl, hoc⟩ := (HSO.out.1.below HKJ.out).at_ (fun e2 => by have h9 := congrArg List.length e2; rw [i64s, List.length_map] at h9; simp only [List.length_nil] at h9; omega)
          have HOC : Hid ((∀ q u, (i64s os)[q]? = some u → wr.cell? ⟨og, oo2 + q, none⟩ = some u) ∧ og < wo.heap.size) := Lib.hid ⟨hoc, (HSO.out.2 og oo2 rfl).2⟩
          clear hra hrb hgl hcc hoc hc hkj hgr hlt hj hj60
          go_wp2_with fail
          refine wp_region_lastL _ _ _ (by simp only [List.dropLast]; rfl) (by simp only [List.getLast?_cons_cons, List.getLast?_singleton]; rfl) (fun X : World => Same wo.heap.size wr X) (by kernel_rfl) (by kernel_rfl) (fun _ _ => rfl) (fun hHeld => ?_)
          refine wpAnyH_take (i := 0) (oi := ?o0x0) (v := ?v0x0) ?hi0x0 (by kernel_rfl) (by kernel_rfl) (by kernel_rfl) ?hQ0x0 ?hy0x0 hHeld ?rest0x0
          case hi0x0 => (simp only [List.getElem?_toArray, List.getElem?_cons_zero]; rfl)
          case hQ0x0 => exact fun _ _ _ h => h
          case hy0x0 => (refine Or.inl ⟨by rfl, ?_⟩; intro W hSw; (try dsimp only at hSw); go_simp; (try with_reducible rfl))
          try simp only [Act.put, List.setIfInBounds_toArray, List.set_cons_zero, List.set_cons_succ]
          refine wpAnyH_take (i := 1) (oi := ?o1x1) (v := ?v1x1) ?hi1x1 (by kernel_rfl) (by kernel_rfl) (by kernel_rfl) ?hQ1x1 ?hy1x1 hHeld ?rest1x1
          case hi1x1 => (simp only [List.getElem?_toArray, List.getElem?_cons_succ, List.getElem?_cons_zero]; rfl)
          case hQ1x1 => exact fun _ _ _ h => h
          case hy1x1 => (refine Or.inl ⟨by rfl, ?_⟩; intro W hSw; (try dsimp only at hSw); go_simp; (try with_reducible rfl))
          try simp only [Act.put, List.setIfInBounds_toArray, List.set_cons_zero, List.set_cons_succ]
          refine wpAnyH_take (i := 2) (oi := ?o2x2) (v := ?v2x2) ?hi2x2 (by kernel_rfl) (by kernel_rfl) (by kernel_rfl) ?hQ2x2 ?hy2x2 hHeld ?rest2x2
          case hi2x2 => (simp only [List.getElem?_toArray, List.getElem?_cons_succ, List.getElem?_cons_zero]; rfl)
          case hQ2x2 => exact fun _ _ _ h => h
          case hy2x2 => (refine Or.inl ⟨by rfl, ?_⟩; intro W hSw; (try dsimp only at hSw); go_simp; (try with_reducible rfl))
          try simp only [Act.put, List.setIfInBounds_toArray, List.set_cons_zero, List.set_cons_succ]
          refine wpAnyH_take (i := 3) (oi := ?o3x3) (v := ?v3x3) ?hi3x3 (by kernel_rfl) (by kernel_rfl) (by kernel_rfl) ?hQ3x3 ?hy3x3 hHeld ?rest3x3
          case hi3x3 => (simp only [List.getElem?_toArray, List.getElem?_cons_succ, List.getElem?_cons_zero]; rfl)
          case hQ3x3 => exact fun _ _ _ h => h
          case hy3x3 => (refine Or.inl ⟨by rfl, ?_⟩; intro W hSw; (try dsimp only at hSw); go_simp; (try with_reducible rfl))
          try simp only [Act.put, List.setIfInBounds_toArray, List.set_cons_zero, List.set_cons_succ]
          refine wpAnyH_take (i := 4) (oi := ?o4x4) (v := ?v4x4) ?hi4x4 (by kernel_rfl) (by kernel_rfl) (by kernel_rfl) ?hQ4x4 ?hy4x4 hHeld ?rest4x4
          case hi4x4 => (simp only [List.getElem?_toArray, List.getElem?_cons_succ, List.getElem?_cons_zero]; rfl)
          case hQ4x4 => exact fun _ _ _ h => h
          case hy4x4 => (refine Or.inl ⟨by rfl, ?_⟩; intro W hSw; (try dsimp only at hSw); go_simp; (try with_reducible rfl))
          try simp only [Act.put, List.setIfInBounds_toArray, List.set_cons_zero, List.set_cons_succ]
          refine wpAnyH_take (i := 5) (oi := ?o5x5) (v := ?v5x5) ?hi5x5 (by kernel_rfl) (by kernel_rfl) (by kernel_rfl) ?hQ5x5 ?hy5x5 hHeld ?rest5x5
          case hi5x5 => (simp only [List.getElem?_toArray, List.getElem?_cons_succ, List.getElem?_cons_zero]; rfl)
          case hQ5x5 => exact fun _ _ _ h => h
          case hy5x5 => (refine Or.inl ⟨by rfl, ?_⟩; intro W hSw; (try dsimp only at hSw); go_simp; (try with_reducible rfl))
          try simp only [Act.put, List.setIfInBounds_toArray, List.set_cons_zero, List.set_cons_succ]
          refine wpAnyH_take (i := 6) (oi := ?o6x6) (v := ?v6x6) ?hi6x6 (by kernel_rfl) (by kernel_rfl) (by kernel_rfl) ?hQ6x6 ?hy6x6 hHeld ?rest6x6
          case hi6x6 => (simp only [List.getElem?_toArray, List.getElem?_cons_succ, List.getElem?_cons_zero]; rfl)
          case hQ6x6 => exact fun _ _ _ h => h
          case hy6x6 => (refine Or.inl ⟨by rfl, ?_⟩; intro W hSw; (try dsimp only at hSw); have z0 := hSw.cell HGL.out (HCC.out 0 _ rfl); rw [Nat.add_zero] at z0; go_simp; (try with_reducible rfl))
          try simp only [Act.put, List.setIfInBounds_toArray, List.set_cons_zero, List.set_cons_succ]
          refine wpAnyH_take (i := 7) (oi := ?o7x7) (v := ?v7x7) ?hi7x7 (by kernel_rfl) (by kernel_rfl) (by kernel_rfl) ?hQ7x7 ?hy7x7 hHeld ?rest7x7
          case hi7x7 => (simp only [List.getElem?_toArray, List.getElem?_cons_succ, List.getElem?_cons_zero]; rfl)
          case hQ7x7 => exact fun _ _ _ h => h
          case hy7x7 => (refine Or.inl ⟨by rfl, ?_⟩; intro W hSw; (try dsimp only at hSw); go_simp; (try with_reducible rfl))
          try simp only [Act.put, List.setIfInBounds_toArray, List.set_cons_zero, List.set_cons_succ]
          refine wpAnyH_take (i := 8) (oi := ?o8x8) (v := ?v8x8) ?hi8x8 (by kernel_rfl) (by kernel_rfl) (by kernel_rfl) ?hQ8x8 ?hy8x8 hHeld ?rest8x8
          case hi8x8 => (simp only [List.getElem?_toArray, List.getElem?_cons_succ, List.getElem?_cons_zero]; rfl)
          case hQ8x8 => exact fun _ _ _ h => h
          case hy8x8 => (refine Or.inl ⟨by rfl, ?_⟩; intro W hSw; (try dsimp only at hSw); go_simp; (try with_reducible rfl))
          try simp only [Act.put, List.setIfInBounds_toArray, List.set_cons_zero, List.set_cons_succ]
          refine wpAnyH_take (i := 12) (oi := ?o12x9) (v := ?v12x9) ?hi12x9 (by kernel_rfl) (by kernel_rfl) (by kernel_rfl) ?hQ12x9 ?hy12x9 hHeld ?rest12x9
          case hi12x9 => (simp only [List.getElem?_toArray, List.getElem?_cons_succ, List.getElem?_cons_zero]; rfl)
          case hQ12x9 => exact fun _ _ _ h => h
          case hy12x9 => (refine Or.inl ⟨by rfl, ?_⟩; intro W hSw; (try dsimp only at hSw); go_simp; (try with_reducible rfl))
          try simp only [Act.put, List.setIfInBounds_toArray, List.set_cons_zero, List.set_cons_succ]
          refine wpAnyH_take (i := 13) (oi := ?o13x10) (v := ?v13x10) ?hi13x10 (by kernel_rfl) (by kernel_rfl) (by kernel_rfl) ?hQ13x10 ?hy13x10 hHeld ?rest13x10
          case hi13x10 => (simp only [List.getElem?_toArray, List.getElem?_cons_succ, List.getElem?_cons_zero]; rfl)
          case hQ13x10 => exact fun _ _ _ h => h
          case hy13x10 => (refine Or.inl ⟨by rfl, ?_⟩; intro W hSw; (try dsimp only at hSw); go_simp; (try with_reducible rfl))
          try simp only [Act.put, List.setIfInBounds_toArray, List.set_cons_zero, List.set_cons_succ]
          refine wpAnyH_take (i := 14) (oi := ?o14x11) (v := ?v14x11) ?hi14x11 (by kernel_rfl) (by kernel_rfl) (by kernel_rfl) ?hQ14x11 ?hy14x11 hHeld ?rest14x11
          case hi14x11 => (simp only [List.getElem?_toArray, List.getElem?_cons_succ, List.getElem?_cons_zero]; rfl)
          case hQ14x11 => exact fun _ _ _ h => h
          case hy14x11 => (refine Or.inl ⟨by rfl, ?_⟩; intro W hSw; (try dsimp only at hSw); go_simp; (try with_reducible rfl))
          try simp only [Act.put, List.setIfInBounds_toArray, List.set_cons_zero, List.set_cons_succ]
          refine wpAnyH_take (i := 15) (oi := ?o15x12) (v := ?v15x12) ?hi15x12 (by kernel_rfl) (by kernel_rfl) (by kernel_rfl) ?hQ15x12 ?hy15x12 hHeld ?rest15x12
          case hi15x12 => (simp only [List.getElem?_toArray, List.getElem?_cons_succ, List.getElem?_cons_zero]; rfl)
          case hQ15x12 => exact fun _ _ _ h => h
          case hy15x12 => (refine Or.inl ⟨by rfl, ?_⟩; intro W hSw; (try dsimp only at hSw); go_simp; (try with_reducible rfl))
          try simp only [Act.put, List.setIfInBounds_toArray, List.set_cons_zero, List.set_cons_succ]
          refine wpAnyH_take (i := 16) (oi := ?o16x13) (v := ?v16x13) ?hi16x13 (by kernel_rfl) (by kernel_rfl) (by kernel_rfl) ?hQ16x13 ?hy16x13 hHeld ?rest16x13
          case hi16x13 => (simp only [List.getElem?_toArray, List.getElem?_cons_succ, List.getElem?_cons_zero]; rfl)
          case hQ16x13 => exact fun _ _ _ h => h
          case hy16x13 => (refine Or.inl ⟨by rfl, ?_⟩; intro W hSw; (try dsimp only at hSw); have z1 := hSw.cell HGL.out (HCC.out 1 _ rfl); have z2 := hSw.cell HGL.out (HCC.out 2 _ rfl); have z3 := hSw.cell HGL.out (HCC.out 3 _ rfl); have z4 := hSw.cell HGL.out (HCC.out 4 _ rfl); have z5 := hSw.cell HGL.out (HCC.out 5 _ rfl); have z6 := hSw.cell HGL.out (HCC.out 6 _ rfl); go_simp; (try with_reducible rfl))
          try simp only [Act.put, List.setIfInBounds_toArray, List.set_cons_zero, List.set_cons_succ]
          refine wpAnyH_take (i := 19) (oi := ?o19x14) (v := ?v19x14) ?hi19x14 (by kernel_rfl) (by kernel_rfl) (by kernel_rfl) ?hQ19x14 ?hy19x14 hHeld ?rest19x14
          case hi19x14 => (simp only [List.getElem?_toArray, List.getElem?_cons_succ, List.getElem?_cons_zero]; rfl)
          case hQ19x14 => exact fun _ _ _ h => h
          case hy19x14 => (refine Or.inl ⟨by rfl, ?_⟩; intro W hSw; (try dsimp only at hSw); go_simp; (try with_reducible rfl))
          try simp only [Act.put, List.setIfInBounds_toArray, List.set_cons_zero, List.set_cons_succ]
          refine wpAnyH_take (i := 20) (oi := ?o20x15) (v := ?v20x15) ?hi20x15 (by kernel_rfl) (by kernel_rfl) (by kernel_rfl) ?hQ20x15 ?hy20x15 hHeld ?rest20x15
          case hi20x15 => (simp only [List.getElem?_toArray, List.getElem?_cons_succ, List.getElem?_cons_zero]; rfl)
          case hQ20x15 => exact fun _ _ _ h => h
          case hy20x15 => (refine Or.inl ⟨by rfl, ?_⟩; intro W hSw; (try dsimp only at hSw); go_simp; (try with_reducible rfl))
          try simp only [Act.put, List.setIfInBounds_toArray, List.set_cons_zero, List.set_cons_succ]
          refine wpAnyH_take (i := 21) (oi := ?o21x16) (v := ?v21x16) ?hi21x16 (by kernel_rfl) (by kernel_rfl) (by kernel_rfl) ?hQ21x16 ?hy21x16 hHeld ?rest21x16
          case hi21x16 => (simp only [List.getElem?_toArray, List.getElem?_cons_succ, List.getElem?_cons_zero]; rfl)
          case hQ21x16 => exact fun _ _ _ h => h
          case hy21x16 => (refine Or.inl ⟨by rfl, ?_⟩; intro W hSw; (try dsimp only at hSw); go_simp; (try with_reducible rfl))
          try simp only [Act.put, List.setIfInBounds_toArray, List.set_cons_zero, List.set_cons_succ]
          refine wpAnyH_take (i := 22) (oi := ?o22x17) (v := ?v22x17) ?hi22x17 (by kernel_rfl) (by kernel_rfl) (by kernel_rfl) ?hQ22x17 ?hy22x17 hHeld ?rest22x17
          case hi22x17 => (simp only [List.getElem?_toArray, List.getElem?_cons_succ, List.getElem?_cons_zero]; rfl)
          case hQ22x17 => exact fun _ _ _ h => h
          case hy22x17 => (refine Or.inl ⟨by rfl, ?_⟩; intro W hSw; (try dsimp only at hSw); go_simp; (try with_reducible rfl))
          try simp only [Act.put, List.setIfInBounds_toArray, List.set_cons_zero, List.set_cons_succ]
          refine wpAnyH_take (i := 23) (oi := ?o23x18) (v := ?v23x18) ?hi23x18 (by kernel_rfl) (by kernel_rfl) (by kernel_rfl) ?hQ23x18 ?hy23x18 hHeld ?rest23x18
          case hi23x18 => (simp only [List.getElem?_toArray, List.getElem?_cons_succ, List.getElem?_cons_zero]; rfl)
          case hQ23x18 => exact fun _ _ _ h => h
          case hy23x18 => (refine Or.inl ⟨by rfl, ?_⟩; intro W hSw; (try dsimp only at hSw); have z7 := hSw.cell HGL.out (HCC.out 7 _ rfl); have z8 := hSw.cell HGL.out (HCC.out 8 _ rfl); have z9 := hSw.cell HGL.out (HCC.out 9 _ rfl); have z10 := hSw.cell HGL.out (HCC.out 10 _ rfl); have z11 := hSw.cell HGL.out (HCC.out 11 _ rfl); have z12 := hSw.cell HGL.out (HCC.out 12 _ rfl); go_simp; (try with_reducible rfl))
          try simp only [Act.put, List.setIfInBounds_toArray, List.set_cons_zero, List.set_cons_succ]
          refine wpAnyH_ready (rs := [9]) (by kernel_rfl) (by simp) ?_
          refine (AllReadyH.cons rfl (fun K hK => ?_) AllReadyH.nil)
          go_simp
          (with_reducible refine Calls.mono (turn_eq Nv os.length HLT.out.2.2 (by have := HOL.out; omega) _) ?_)
          rintro e wt ⟨⟨yy, hyy, rfl⟩, rfl⟩
          obtain ⟨N, hN⟩ : ∃ N, os[yy]? = some N := ⟨_, List.getElem?_eq_getElem hyy⟩
          have HNN : Hid (N < n ∧ kk N = 6) := Lib.hid (HOS.out.2 N (List.mem_of_getElem? hN))
          have HYC : Hid (wr.cell? ⟨og, oo2 + yy, none⟩ = some (.int .i64 (N : Int))) := Lib.hid (HOC.out.1 yy _ (by unfold i64s; rw [List.getElem?_map, hN]; rfl))
          have y1 : (yy : Int) < (os.length : Int) := by omega
          have y0 : (0 : Int) ≤ (yy : Int) := by omega
          clear hN hyy
          refine hK.out _ _ ?_ (fun hHeld => ?_)
          · (exact fun _ _ => rfl)
          clear hK K
          try simp only [Act.put, List.setIfInBounds_toArray, List.set_cons_zero, List.set_cons_succ]
          refine wpAnyH_take (i := 10) (oi := ?o10x19) (v := ?v10x19) ?hi10x19 (by kernel_rfl) (by kernel_rfl) (by kernel_rfl) ?hQ10x19 ?hy10x19 hHeld ?rest10x19
          case hi10x19 => (simp only [List.getElem?_toArray, List.getElem?_cons_succ, List.getElem?_cons_zero]; rfl)
          case hQ10x19 => exact fun _ _ _ h => h
          case hy10x19 => (refine Or.inl ⟨by rfl, ?_⟩; intro W hSw; (try dsimp only at hSw); go_simp; (try with_reducible rfl))
          try simp only [Act.put, List.setIfInBounds_toArray, List.set_cons_zero, List.set_cons_succ]
          refine wpAnyH_take (i := 11) (oi := ?o11x20) (v := ?v11x20) ?hi11x20 (by kernel_rfl) (by kernel_rfl) (by kernel_rfl) ?hQ11x20 ?hy11x20 hHeld ?rest11x20
          case hi11x20 => (simp only [List.getElem?_toArray, List.getElem?_cons_succ, List.getElem?_cons_zero]; rfl)
          case hQ11x20 => exact fun _ _ _ h => h
          case hy11x20 => (refine Or.inl ⟨by rfl, ?_⟩; intro W hSw; (try dsimp only at hSw); have z0 := hSw.cell HOC.out.2 HYC.out; go_simp; (try with_reducible rfl))
          try simp only [Act.put, List.setIfInBounds_toArray, List.set_cons_zero, List.set_cons_succ]
          refine wpAnyH_ready (rs := [17]) (by kernel_rfl) (by simp) ?_
          refine (AllReadyH.cons rfl (fun K hK => ?_) AllReadyH.nil)
          go_simp
          (with_reducible refine Calls.mono (Clean_any 2 (by decide) x _ _ (HRA.out.below (by go_grown))) ?_)
          rintro e w3 ⟨⟨v3, rfl, hv3⟩, hk3⟩
          have hk3a : Kept wr w3 := ⟨hk3.os, hk3.tape, hk3.output, hk3.size, hk3.block⟩
          have HK3 := Lib.hid hk3a
          have HS3 : Hid (Same wo.heap.size wr w3) := Lib.hid (Same.of_kept hk3a HKJ.out.size)
          generalize knd x ((2 : Nat) : Int) = k3 at hv3
          have HV3 : Hid (OG (fun b => wr.heap.size ≤ b) w3 2 k3 v3) := Lib.hid hv3
          obtain ⟨b3, B3, c3, l3, q3, T3, K3, n3, e3, rfl, _⟩ := hv3
          clear hk3 hk3a
          refine hK.out _ _ ?_ (fun hHeld => ?_)
          · (exact HS3.out)
          clear hK K
          try simp only [Act.put, List.setIfInBounds_toArray, List.set_cons_zero, List.set_cons_succ]
          refine wpAnyH_ready (rs := [18]) (by kernel_rfl) (by simp) ?_
          refine (AllReadyH.cons rfl (fun K hK => ?_) AllReadyH.nil)
          go_simp
          (with_reducible refine Calls.mono (Key_any 2 _ _ _ _ HV3.out) ?_)
          rintro e w4 ⟨⟨k4, v4, rfl, hv4⟩, hk4⟩
          have hk4a : Kept wr w4 := HK3.out.trans hk4
          have HK4 := Lib.hid hk4a
          have HS4 : Hid (Same wo.heap.size wr w4) := Lib.hid (Same.of_kept hk4a HKJ.out.size)
          have HV4 : Hid (OG (fun b => wr.heap.size ≤ b) w4 2 k4 v4) := Lib.hid (hv4.weak fun c hc => by have h9 := HK3.out.size; rcases hc with hc | hc; exact hc; exact Nat.le_trans h9 hc)
          obtain ⟨b4, B4, c4, l4, q4, T4, K4, n4, e4, rfl, _⟩ := hv4
          clear hk4 hk4a
          refine hK.out _ _ ?_ (fun hHeld => ?_)
          · (exact HS4.out)
          clear hK K
          try simp only [Act.put, List.setIfInBounds_toArray, List.set_cons_zero, List.set_cons_succ]
          refine wpAnyH_ready (rs := [24]) (by kernel_rfl) (by simp) ?_
          refine (AllReadyH.cons rfl (fun K hK => ?_) AllReadyH.nil)
          go_simp
          (with_reducible refine Calls.mono (Clean_any 2 (by decide) y _ _ (HRB.out.below HK4.out)) ?_)
          rintro e w6 ⟨⟨v6, rfl, hv6⟩, hk6⟩
          have hk6a : Kept wr w6 := HK4.out.trans hk6
          have HK6 := Lib.hid hk6a
          have HS6 : Hid (Same wo.heap.size wr w6) := Lib.hid (Same.of_kept hk6a HKJ.out.size)
          generalize knd y ((2 : Nat) : Int) = k6 at hv6
          have HV6 : Hid (OG (fun b => wr.heap.size ≤ b) w6 2 k6 v6) := Lib.hid (hv6.weak fun c hc => Nat.le_trans HK4.out.size hc)
          have HV5 : Hid (OG (fun b => wr.heap.size ≤ b) w6 2 k4 (.agg #[.int .i64 k4, .bool b4, .slice B4 l4.length c4, .int .u64 (q4 : Int), .string T4, .slice K4 n4 e4])) := Lib.hid (HV4.out.below hk6)
          obtain ⟨b6, B6, c6, l6, q6, T6, K6, n6, e6, rfl, _⟩ := hv6
          clear hk6 hk6a
          refine hK.out _ _ ?_ (fun hHeld => ?_)
          · (exact HS6.out)
          clear hK K
          try simp only [Act.put, List.setIfInBounds_toArray, List.set_cons_zero, List.set_cons_succ]
          refine wpAnyH_take (i := 25) (oi := ?o25x21) (v := ?v25x21) ?hi25x21 (by kernel_rfl) (by kernel_rfl) (by kernel_rfl) ?hQ25x21 ?hy25x21 hHeld ?rest25x21
          case hi25x21 => (simp only [List.getElem?_toArray, List.getElem?_cons_succ, List.getElem?_cons_zero]; rfl)
          case hQ25x21 => exact fun _ _ _ h => h
          case hy25x21 => (refine Or.inl ⟨by rfl, ?_⟩; intro W hSw; (try dsimp only at hSw); go_simp; (try with_reducible rfl))
          try simp only [Act.put, List.setIfInBounds_toArray, List.set_cons_zero, List.set_cons_succ]
          refine wpAnyH_ready (rs := [26]) (by kernel_rfl) (by simp) ?_
          refine (AllReadyH.cons rfl (fun K hK => ?_) AllReadyH.nil)
          go_simp
          refine hK.out _ _ ?_ (fun hHeld => ?_)
          · (exact HS6.out.trans (Same.of_kept ((Below.refl _ w6).alloc (Nat.le_refl _) _) (by have := HKJ.out.size; have := HK6.out.size; omega)))
          clear hK K
          try simp only [Act.put, List.setIfInBounds_toArray, List.set_cons_zero, List.set_cons_succ]
          have HXR := Lib.hid HGR.out.choose_spec.1
          have hk7 : Kept wr (w6.alloc (.cells #[.int .i64 (N : Int), .int .i64 k4, .bool b4, .slice B4 l4.length c4, .int .u64 (q4 : Int), .string T4, .slice K4 n4 e4, .int .i64 k6, .bool b6, .slice B6 l6.length c6, .int .u64 (q6 : Int), .string T6, .slice K6 n6 e6] 35)) := HK6.out.trans ((Below.refl _ w6).alloc (Nat.le_refl _) _)
          have HK7 := Lib.hid hk7
          obtain ⟨xs, hx7, hv7⟩ := HGR.out.below (PK13.moves n kk) hk7
          have HX7 := Lib.hid hx7
          have HV7 := Lib.hid hv7
          have HS7 : Hid (Same wo.heap.size wr (w6.alloc (.cells #[.int .i64 (N : Int), .int .i64 k4, .bool b4, .slice B4 l4.length c4, .int .u64 (q4 : Int), .string T4, .slice K4 n4 e4, .int .i64 k6, .bool b6, .slice B6 l6.length c6, .int .u64 (q6 : Int), .string T6, .slice K6 n6 e6] 35))) := Lib.hid (Same.of_kept hk7 HKJ.out.size)
          have HNW : Hid (∀ j', j' < 1 → PK13 n kk (fun b => wo.heap.size ≤ b ∧ (Value.slice SA j sc).ownBlock ≠ some b) (w6.alloc (.cells #[.int .i64 (N : Int), .int .i64 k4, .bool b4, .slice B4 l4.length c4, .int .u64 (q4 : Int), .string T4, .slice K4 n4 e4, .int .i64 k6, .bool b6, .slice B6 l6.length c6, .int .u64 (q6 : Int), .string T6, .slice K6 n6 e6] 35)) (([.int .i64 (N : Int), .int .i64 k4, .bool b4, .slice B4 l4.length c4, .int .u64 (q4 : Int), .string T4, .slice K4 n4 e4, .int .i64 k6, .bool b6, .slice B6 l6.length c6, .int .u64 (q6 : Int), .string T6, .slice K6 n6 e6].drop (j' * 13)).take 13)) := Lib.hid fun j' hj' => by
            obtain rfl : j' = 0 := by omega
            have hlt := HXR.out.lt
            have hz := HKJ.out.size
            have hm : ∀ k v, OG (fun b => wr.heap.size ≤ b) w6 2 k v → OG (fun b => wo.heap.size ≤ b ∧ (Value.slice SA j sc).ownBlock ≠ some b) (w6.alloc (.cells #[.int .i64 (N : Int), .int .i64 k4, .bool b4, .slice B4 l4.length c4, .int .u64 (q4 : Int), .string T4, .slice K4 n4 e4, .int .i64 k6, .bool b6, .slice B6 l6.length c6, .int .u64 (q6 : Int), .string T6, .slice K6 n6 e6] 35)) 2 k v := fun k v h => h.move (fun c hc hl => ⟨Nat.le_trans hz hc, fun e => by have := (hlt c e).2; have hc' : wr.heap.size ≤ c := hc; omega⟩) fun c _ hl => ((Below.refl _ w6).alloc (Nat.le_refl _) (.cells #[.int .i64 (N : Int), .int .i64 k4, .bool b4, .slice B4 l4.length c4, .int .u64 (q4 : Int), .string T4, .slice K4 n4 e4, .int .i64 k6, .bool b6, .slice B6 l6.length c6, .int .u64 (q6 : Int), .string T6, .slice K6 n6 e6] 35)).block c hl
            exact ⟨N, k4, k6, _, _, _, _, _, _, _, _, _, _, _, _, rfl, HNN.out.1, HNN.out.2, hm _ _ HV5.out, hm _ _ HV6.out⟩
          clear hk7 hx7 hv7
          refine wpAnyH_ready (rs := [27]) (by kernel_rfl) (by simp) ?_
          refine (AllReadyH.cons rfl (fun K hK => ?_) AllReadyH.nil)
          refine step_append_lies _ rfl (.tmp 52) (.tmp 78) 25 rfl wo.heap.size 35 j0 (.agg #[.int .i64 0, .int .i64 0, .bool false, .slice none 0 0, .int .u64 0, .string ⟨#[]⟩, .slice none 0 0, .int .i64 0, .bool false, .slice none 0 0, .int .u64 0, .string ⟨#[]⟩, .slice none 0 0]) 13 184 Tryz.underlying25 HJ.out.1 HJ.out.2.1 HJ.out.2.2.1 HJ.out.2.2.2 rfl (by omega) _ j _ rfl HX7.out ⟨w6.heap.size, 0, none⟩ 1 1 [.int .i64 (N : Int), .int .i64 k4, .bool b4, .slice B4 l4.length c4, .int .u64 (q4 : Int), .string T4, .slice K4 n4 e4, .int .i64 k6, .bool b6, .slice B6 l6.length c6, .int .u64 (q6 : Int), .string T6, .slice K6 n6 e6] rfl rfl (cells_new w6 _ _) (by intro u hu; simp at hu; rcases hu with rfl | rfl | rfl | rfl | rfl | rfl | rfl | rfl | rfl | rfl | rfl | rfl | rfl <;> rfl) (by omega) (by simp only [maxLen]; have := HLT.out; omega) (by have := HLT.out; omega) (by have h1 := HKJ.out.size; have h2 := HK7.out.size; omega) _ rfl ?_
          intro g2 cap2 w8 ho2 hg2 hat hgl
          have HST := Lib.hid (GrZ.push (PK13.moves n kk) HX7.out HV7.out ho2 hg2 hat HNW.out)
          have HKS := Lib.hid (own_kept6 (HKJ.out.trans HK7.out) HX7.out (Nat.le_refl _) hg2)
          refine hK.out _ _ ?_ (fun hHeld => ?_)
          · (exact HS7.out.trans (fun c hc => hg2.block c (by have h1 := HKJ.out.size; have h2 := HK7.out.size; omega) fun e => by have h3 := (HXR.out.lt c e.symm).1; omega))
          clear hK K
          try simp only [Act.put, List.setIfInBounds_toArray]
          refine wpAnyH_done (by kernel_rfl) ?_ _
          simp only [lastQ]
          clear hHeld ho2 hg2 hat hgl
          go_wp2_with fail
          exact ⟨⟨j + 1, by go_num, by have := HLT.out; omega, by have := HLT.out; omega, fun h => by omega, HKS.out, HST.out⟩, by have := HLT.out; simp [intOf]; omega⟩
        · clear hgr hkj
          have HPO : Hid (RetPK n kk w (.returned (.slice SA j sc)) wr) := Lib.hid ⟨⟨_, j, rfl, hj60, HNIL.out, by
            obtain ⟨xs, ho, hv⟩ := HGR.out
            have hz := (HK0.out.trans HKW.out).size
            refine ⟨xs, ⟨ho.1, ?_⟩, fun i hi => PK13.moves n kk _ _ wr wr _ (hv i hi) (fun c hc _ => ⟨Nat.le_trans hz hc.1, hc.2⟩) fun _ _ _ => rfl⟩
            rcases ho.2 with h2 | ⟨g, cap, cur, e1, e2, e3⟩
            · exact .inl h2
            · exact .inr ⟨g, cap, cur, e1, Nat.le_trans hz e2, e3⟩⟩, (HK0.out.trans HKW.out).trans HKJ.out⟩
          by_cases h1 : j < lm
          · have j1 : (j : Int) < (lm : Int) := by omega
            by_cases h2 : j < 60
            · have j2 : (j : Int) < 60 := by omega
              have h3 : os.length = 0 := by omega
              have j3 : ¬ (0 : Int) < (os.length : Int) := by omega
              clear hlt h1 h2 h3 hj hj60
              go_wp2_with fail
              go_ret
              exact HPO.out
            · have j2 : ¬ (j : Int) < 60 := by omega
              clear hlt h1 h2 hj hj60
              go_wp2_with fail
              go_ret
              exact HPO.out
          · have j1 : ¬ (j : Int) < (lm : Int) := by omega
            clear hlt h1 hj hj60
            go_wp2_with fail
            go_ret
            exact HPO.out
end Go.Proofs.YtoociokhldakbaaGreat
