/- The law FnNestedFreeze as a whole returns true; a given graph and given pokes out of their readings -/
import Derived.Test.YtoociokhldakbaaGreatOW
import Derived.OwnWalk
import Derived.Deep.DeepMust
import Derived.Deep.AppendLies
import Derived.Deep.RegionHeld3
import Derived.Orders
import Derived.WalkKit
import Derived.ProofKit
import Derived.OpenShut
import Derived.ShutString
import Derived.ChangeOld
import Derived.SizedLaws
import Derived.Lib.SmallJoins
namespace Go.Proofs.YtoociokhldakbaaGreat
open Go.ChangeShapes Go.WideShapes Go.ChangeAt Go.RowKit
set_option linter.unusedVariables false
theorem to_tail {P : Program} {c : Code} {Q : Exit → Act → World → Prop} {K : Act → World → Prop} {a : Act} {w : World} (h : ∀ a w, Code.wp P c Q a w → K a w) (h2 : Code.wp P c Q a w) : K a w := h _ _ h2
theorem GrZ.weak {E : (Nat → Prop) → World → List Value → Prop} {z : Nat} {ty : TypeId} {F F' : Nat → Prop} {B B' : Nat} {w : World} {n : Nat} {sv : Value} (hE : MovesZ E) (h : GrZ E z ty F B w n sv) (hF : ∀ b, F b → F' b) (hB : B' ≤ B) : GrZ E z ty F' B' w n sv := by
  obtain ⟨xs, ho, hv⟩ := h
  refine ⟨xs, ⟨ho.1, ?_⟩, fun i hi => hE _ _ w w _ (hv i hi) (fun c hc _ => ⟨hF c hc.1, hc.2⟩) fun _ _ _ => rfl⟩
  rcases ho.2 with h2 | ⟨g, cap, cur, e1, e2, e3⟩
  · exact .inl h2
  · exact .inr ⟨g, cap, cur, e1, Nat.le_trans hB e2, e3⟩
/-- one poke of zeros, in its row -/
theorem zero_poke (w : World) : PIn (w.alloc (.cells #[.int .i64 0, .int .i64 0, .bool false, .slice none 0 0, .int .u64 0, .string ⟨#[]⟩, .slice none 0 0, .int .i64 0, .bool false, .slice none 0 0, .int .u64 0, .string ⟨#[]⟩, .slice none 0 0] 35)) (some ⟨w.heap.size, 0, none⟩) 0 := by
  refine ⟨w.heap.size, 0, 0, 0, 0, _, _, _, _, _, _, _, _, _, _, _, _, rfl, fun j u hj => ?_, ⟨false, none, 0, [], 0, ⟨#[]⟩, none, 0, 0, rfl, Sl.nil _, (fun d hd => by cases hd), by decide, by decide, fun i hi => absurd hi (by omega)⟩, ⟨false, none, 0, [], 0, ⟨#[]⟩, none, 0, 0, rfl, Sl.nil _, (fun d hd => by cases hd), by decide, by decide, fun i hi => absurd hi (by omega)⟩⟩
  have := cells_new w #[.int .i64 0, .int .i64 0, .bool false, .slice none 0 0, .int .u64 0, .string ⟨#[]⟩, .slice none 0 0, .int .i64 0, .bool false, .slice none 0 0, .int .u64 0, .string ⟨#[]⟩, .slice none 0 0] 35 j u hj
  rwa [addr0] at this
set_option maxRecDepth 100000 in
set_option maxHeartbeats 4000000 in
theorem FnNestedFreeze_any (GA LA : Option Addr) (n0 gc lm lc : Nat) (root : Int) (hn0 : n0 ≤ 9223372036854775807) (hlm : lm ≤ 9223372036854775807) (w : World) (hg : ∀ i, i < n0 → NIn w GA i) (hl : ∀ i, i < lm → PIn w LA i) :
    Calls Tryz.prog 3 #[.agg #[.slice GA n0 gc, .int .i64 root], .slice LA lm lc] w fun e w' => e = .returned (.bool true) ∧ Kept w w' := by
  have hk0 : Kept w (w.alloc (.cells #[.slice GA n0 gc, .int .i64 root] 24)) := (Below.refl _ _).alloc (Nat.le_refl _) _
  have HBX := Lib.hid (Blk.new w 24 #[.slice GA n0 gc, .int .i64 root])
  have HK0 := Lib.hid hk0
  have CZ := Lib.hid (zzFits8_any GA n0 gc root hn0 (w.alloc (.cells #[.slice GA n0 gc, .int .i64 root] 24)) (fun i hi => (hg i hi).below hk0))
  have CNE : Hid (∀ X, Kept (w.alloc (.cells #[.slice GA n0 gc, .int .i64 root] 24)) X → Calls Tryz.prog 5 #[.agg #[.slice GA n0 gc, .int .i64 root]] X fun e w' => (∃ v, e = .returned v ∧ GraphQ X.heap.size w' v) ∧ Kept X w') := Lib.hid fun X hX => Nested_any GA n0 gc root hn0 X fun i hi => ((hg i hi).below hk0).below hX
  have HL : Hid (∀ X, Kept (w.alloc (.cells #[.slice GA n0 gc, .int .i64 root] 24)) X → ∀ i, i < lm → PIn X LA i) := Lib.hid fun X hX i hi => ((hl i hi).below hk0).below hX
  have hlI : (lm : Int) ≤ 9223372036854775807 := by omega
  have HLM := Lib.hid hlm
  clear hk0 hg hl hn0 hlm
  go_enter Tryz.func3, Tryz.ntmps3
  go_wp2_with fail
  generalize w.alloc (.cells #[.slice GA n0 gc, .int .i64 root] 24) = W at *
  refine CZ.out.mono ?_
  rintro e w1 ⟨⟨r, rfl⟩, hk1⟩
  have HK1 := Lib.hid hk1
  have x0 := (HBX.out.below hk1).cell 0
  have x1 := (HBX.out.below hk1).cell 1
  clear hk1
  cases r
  · go_wp2_with fail
    go_ret
    exact ⟨rfl, HK0.out.trans HK1.out⟩
  · by_cases hbig : (lm : Int) ≤ 2147483647
    · have hbig' : ¬ (2147483647 : Int) < (lm : Int) := by omega
      go_wp2_with fail
      refine (CNE.out _ HK1.out).mono ?_
      rintro e w3 ⟨⟨v5, rfl, hv5⟩, hk3⟩
      obtain ⟨gb, n, nc, rt, kk, ng, mg, bt, tx, ks, rfl, hrt, hok, hgm⟩ := hv5.graph
      have hk5 : Kept w3 (w3.alloc (.cells #[.slice (some ⟨gb, 0, none⟩) n nc, .int .i64 (rt : Int)] 24)) := (Below.refl _ _).alloc (Nat.le_refl _) _
      have HB5 := Lib.hid (Blk.new w3 24 #[.slice (some ⟨gb, 0, none⟩) n nc, .int .i64 (rt : Int)])
      have HK5 := Lib.hid (HK1.out.trans (hk3.trans hk5))
      have HGM := Lib.hid (hgm.below hk5)
      have HOK := Lib.hid hok
      have HRT := Lib.hid hrt
      clear hv5 hk3 hk5 hgm hok hrt x0 x1
      go_wp2_with fail
      generalize w3.alloc (.cells #[.slice (some ⟨gb, 0, none⟩) n nc, .int .i64 (rt : Int)] 24) = W5 at *
      refine wp_region_held_drew (S := (fun X : World => Kept W5 X)) (by kernel_rfl) (by go_grown) (fun hHeld => ?_)
      refine wpAnyH_take (i := 0) (oi := ?o0x0) (v := (.agg #[.slice (some ⟨gb, 0, none⟩) n nc, .int .i64 (rt : Int)])) ?hi0x0 (by kernel_rfl) (by kernel_rfl) (by kernel_rfl) ?hQ0x0 ?hy0x0 hHeld ?rest0x0
      case hi0x0 => (simp only [List.getElem?_toArray, List.getElem?_cons_zero]; rfl)
      case hQ0x0 => exact fun _ _ _ h => h
      case hy0x0 => exact yields_load_row (by rfl) 24 (.tmp 5) (by rfl) w3.heap.size (by rfl) _ _ _ (fun X hX => HB5.out.below hX) Tryz.underlying24 (by rfl) info_Gr
      try simp only [Act.put, List.setIfInBounds_toArray, List.set_cons_zero, List.set_cons_succ]
      refine wpAnyH_take (i := 1) (oi := ?o1x1) (v := ?v1x1) ?hi1x1 (by kernel_rfl) (by kernel_rfl) (by kernel_rfl) ?hQ1x1 ?hy1x1 hHeld ?rest1x1
      case hi1x1 => (simp only [List.getElem?_toArray, List.getElem?_cons_succ, List.getElem?_cons_zero]; rfl)
      case hQ1x1 => exact fun _ _ _ h => h
      case hy1x1 => (refine Or.inl ⟨by rfl, ?_⟩; intro W hSw; (try dsimp only at hSw); go_simp; (try with_reducible rfl))
      try simp only [Act.put, List.setIfInBounds_toArray, List.set_cons_zero, List.set_cons_succ]
      refine wpAnyH_take (i := 3) (oi := ?o3x2) (v := (.agg #[.slice (some ⟨gb, 0, none⟩) n nc, .int .i64 (rt : Int)])) ?hi3x2 (by kernel_rfl) (by kernel_rfl) (by kernel_rfl) ?hQ3x2 ?hy3x2 hHeld ?rest3x2
      case hi3x2 => (simp only [List.getElem?_toArray, List.getElem?_cons_succ, List.getElem?_cons_zero]; rfl)
      case hQ3x2 => exact fun _ _ _ h => h
      case hy3x2 => exact yields_load_row (by rfl) 24 (.tmp 5) (by rfl) w3.heap.size (by rfl) _ _ _ (fun X hX => HB5.out.below hX) Tryz.underlying24 (by rfl) info_Gr
      try simp only [Act.put, List.setIfInBounds_toArray, List.set_cons_zero, List.set_cons_succ]
      refine wpAnyH_take (i := 4) (oi := ?o4x3) (v := ?v4x3) ?hi4x3 (by kernel_rfl) (by kernel_rfl) (by kernel_rfl) ?hQ4x3 ?hy4x3 hHeld ?rest4x3
      case hi4x3 => (simp only [List.getElem?_toArray, List.getElem?_cons_succ, List.getElem?_cons_zero]; rfl)
      case hQ4x3 => exact fun _ _ _ h => h
      case hy4x3 => (refine Or.inl ⟨by rfl, ?_⟩; intro W hSw; (try dsimp only at hSw); go_simp; (try with_reducible rfl))
      try simp only [Act.put, List.setIfInBounds_toArray, List.set_cons_zero, List.set_cons_succ]
      refine wpAnyH_take (i := 9) (oi := ?o9x4) (v := ?v9x4) ?hi9x4 (by kernel_rfl) (by kernel_rfl) (by kernel_rfl) ?hQ9x4 ?hy9x4 hHeld ?rest9x4
      case hi9x4 => (simp only [List.getElem?_toArray, List.getElem?_cons_succ, List.getElem?_cons_zero]; rfl)
      case hQ9x4 => exact fun _ _ _ h => h
      case hy9x4 => (refine Or.inl ⟨by rfl, ?_⟩; intro W hSw; (try dsimp only at hSw); go_simp; (try with_reducible rfl))
      try simp only [Act.put, List.setIfInBounds_toArray, List.set_cons_zero, List.set_cons_succ]
      refine wpAnyH_ready (rs := [2, 5]) (by kernel_rfl) (by simp) ?_
      refine (AllReadyH.cons rfl (fun K hK => ?_) (AllReadyH.cons rfl (fun K hK => ?_) AllReadyH.nil))
      · go_simp
        have kx : Kept W5 W5.drew := by go_grown
        (with_reducible refine Calls.mono (Pokes_any gb n nc lm lc (rt : Int) LA kk ng mg bt tx ks HOK.out _ (HGM.out.below kx) HLM.out (fun i hi => HL.out _ (HK5.out.trans kx) i hi)) ?_)
        rintro e wa ⟨⟨s1, m1, rfl, hm1, hnil1, hg1⟩, hka⟩
        have hkaw : Kept W5 wa := ⟨hka.os, hka.tape, hka.output, hka.size, hka.block⟩
        have HKA := Lib.hid hkaw
        have HM1 := Lib.hid hm1
        have HG1 : Hid (GrZ (PK13 n kk) 13 35 (fun b => W5.heap.size ≤ b) W5.heap.size wa m1 s1) := Lib.hid (hg1)
        obtain ⟨A1, c1, rfl, hc1⟩ := hg1.slice2
        have HC1 := Lib.hid hc1
        clear hka hkaw hg1 hm1 hnil1 hc1
        refine hK.out _ _ ?_ (fun hHeld => ?_)
        · exact HKA.out
        clear hK K kx
        try simp only [Act.put, List.setIfInBounds_toArray, List.set_cons_zero, List.set_cons_succ]
        refine wpAnyH_ready (rs := [5]) (by kernel_rfl) (by simp) ?_
        refine (AllReadyH.cons rfl (fun K hK => ?_) AllReadyH.nil)
        go_simp
        have HKB : Hid (Kept W5 (wa.alloc (.cells #[.int .i64 0, .int .i64 0, .bool false, .slice none 0 0, .int .u64 0, .string ⟨#[]⟩, .slice none 0 0, .int .i64 0, .bool false, .slice none 0 0, .int .u64 0, .string ⟨#[]⟩, .slice none 0 0] 35))) := Lib.hid (HKA.out.trans ((Below.refl _ wa).alloc (Nat.le_refl _) _))
        have HKAB : Hid (Kept wa (wa.alloc (.cells #[.int .i64 0, .int .i64 0, .bool false, .slice none 0 0, .int .u64 0, .string ⟨#[]⟩, .slice none 0 0, .int .i64 0, .bool false, .slice none 0 0, .int .u64 0, .string ⟨#[]⟩, .slice none 0 0] 35))) := Lib.hid ((Below.refl _ wa).alloc (Nat.le_refl _) _)
        have HZP := Lib.hid (zero_poke wa)
        refine hK.out _ _ ?_ (fun hHeld => ?_)
        · (exact HKB.out)
        clear hK K
        try simp only [Act.put, List.setIfInBounds_toArray, List.set_cons_zero, List.set_cons_succ]
        refine wpAnyH_ready (rs := [6]) (by kernel_rfl) (by simp) ?_
        refine (AllReadyH.cons rfl (fun K hK => ?_) AllReadyH.nil)
        go_simp
        (with_reducible refine Calls.mono (Pokes_any gb n nc 1 1 (rt : Int) (some ⟨wa.heap.size, 0, none⟩) kk ng mg bt tx ks HOK.out _ (HGM.out.below HKB.out) (by decide) (fun i hi => by have e0 : i = 0 := (by omega); rw [e0]; exact HZP.out)) ?_)
        rintro e wc ⟨⟨s2, m2, rfl, hm2, hnil2, hg2⟩, hkc⟩
        have HKC := Lib.hid (HKB.out.trans hkc)
        have HM2 := Lib.hid hm2
        obtain ⟨A2, c2, rfl⟩ := hg2.slice
        have HNIL2 := Lib.hid hnil2
        have HG2 := Lib.hid hg2
        have HKAC : Hid (Kept wa wc) := Lib.hid (HKAB.out.trans hkc)
        clear hkc hg2 hm2 hnil2
        refine hK.out _ _ ?_ (fun hHeld => ?_)
        · (exact HKC.out)
        clear hK K
        try simp only [Act.put, List.setIfInBounds_toArray, List.set_cons_zero, List.set_cons_succ]
        obtain ⟨j0, hj0, hj1, hj2, hj3⟩ := info_Pk
        have HJ : Hid (Tryz.prog.info? 35 = some j0 ∧ j0.zero = some (.agg #[.int .i64 0, .int .i64 0, .bool false, .slice none 0 0, .int .u64 0, .string ⟨#[]⟩, .slice none 0 0, .int .i64 0, .bool false, .slice none 0 0, .int .u64 0, .string ⟨#[]⟩, .slice none 0 0]) ∧ j0.size = 13 ∧ j0.bytes = 184) := Lib.hid ⟨hj0, hj1, hj2, hj3⟩
        clear hj0 hj1 hj2 hj3
        by_cases hm20 : m2 = 0
        · have e2 := HNIL2.out hm20
          subst hm20
          injection e2 with e2 e3 e4
          subst e2 e4
          refine wpAnyH_ready (rs := [7]) (by kernel_rfl) (by simp) ?_
          refine (AllReadyH.cons rfl (fun K hK => ?_) AllReadyH.nil)
          refine step_append_nil rfl (.tmp 26) (.tmp 30) 25 rfl 35 j0 Tryz.underlying25 HJ.out.1 A1 m1 c1 rfl HC1.out rfl ?_
          refine hK.out _ _ ?_ (fun hHeld => ?_)
          · exact HKC.out
          clear hK K
          try simp only [Act.put, List.setIfInBounds_toArray]
          refine wpAnyH_take (i := 8) (oi := ?o8x5) (v := ?v8x5) ?hi8x5 (by kernel_rfl) (by kernel_rfl) (by kernel_rfl) ?hQ8x5 ?hy8x5 hHeld ?rest8x5
          case hi8x5 => (simp only [List.getElem?_toArray, List.getElem?_cons_succ, List.getElem?_cons_zero]; rfl)
          case hQ8x5 => exact fun _ _ _ h => h
          case hy8x5 => (refine Or.inl ⟨by rfl, ?_⟩; intro W hSw; (try dsimp only at hSw); go_simp; (try with_reducible rfl))
          try simp only [Act.put]
          refine wpAnyH_done (by kernel_rfl) ?_ _
          refine to_tail (by assumption) ?_
          refine law_loop1 _ _ _ W5.heap.size n m1 c1 A1 kk _ _ _ _ _ _ _ _ _ _ _ _ _ _ _ _ _ _ _ _ _ _ _ _ _ _ _ _ _ _ _ _ _ _ _ _ _ _ _ _ _ _ _ _ _ _ _ _ _ _ _ _ _ _ _ _ _ _ _ _ _ _ _ _ _ _ _ _ _ _ _ _ _ _ _ _ _ _ (by have := HM1.out; omega) (HG1.out.below (PK13.moves n kk) HKAC.out) (fun _ _ d _ _ h => by cases d <;> exact h) ?_
          intro pv w9 u8 u33 u34 u35 u36 u37 u38 u39 u40 u41 u42 u43 u44 u45 u46 hps9 hk9
          refine to_tail (by assumption) ?_
          refine law_rest _ w9 _ _ gb n nc w3.heap.size rt m1 pv kk ng mg bt tx ks _ _ _ _ _ _ _ _ _ _ _ _ _ _ _ _ _ _ _ _ _ _ _ _ _ _ _ _ _ _ _ _ _ _ _ _ _ _ _ _ _ _ _ _ _ _ _ _ _ _ _ _ _ _ _ _ _ _ _ _ _ _ _ _ _ _ _ _ _ _ _ _ _ _ _ _ _ _ _ _ (by have := HM1.out; omega) HOK.out HRT.out (HGM.out.below ((HKC.out).trans hk9)) (HB5.out.below ((HKC.out).trans hk9)) hps9 (fun _ _ d _ _ h => by cases d <;> exact h) ?_
          intro w10 z0 z1 z2 z3 z5 z6 z7 z8 z9 z10 z11 z12 z13 z14 z15 z16 z17 z18 z19 z20 z21 z22 z23 z24 z25 z26 z27 z28 z29 z30 z31 z32 z33 z34 z35 z36 z37 z38 z39 z40 z41 z42 z43 z44 z45 z46 z47 z48 z49 z50 z51 z52 z53 z54 z55 z56 z57 z58 z59 z60 z61 z62 z63 z64 z65 z66 z67 z68 z69 z70 z71 z72 z73 z74 z75 z76 z77 z78 z79 z80 z81 hk10
          go_ret
          exact ⟨rfl, HK0.out.trans (HK5.out.trans (((HKC.out).trans hk9).trans hk10))⟩
        · obtain ⟨g2, c2', xs2, e2, hB2, hx2, hcell2, hone2, hpk2⟩ := HG2.out.src (by omega)
          obtain ⟨xs1, hx1, hv1⟩ := HG1.out.below (PK13.moves n kk) HKAC.out
          have HX1 := Lib.hid hx1
          have HV1 := Lib.hid hv1
          clear hx1 hv1
          refine wpAnyH_ready (rs := [7]) (by kernel_rfl) (by simp) ?_
          refine (AllReadyH.cons rfl (fun K hK => ?_) AllReadyH.nil)
          cases e2
          refine step_append_lies _ rfl (.tmp 26) (.tmp 30) 25 rfl W5.heap.size 35 j0 (.agg #[.int .i64 0, .int .i64 0, .bool false, .slice none 0 0, .int .u64 0, .string ⟨#[]⟩, .slice none 0 0, .int .i64 0, .bool false, .slice none 0 0, .int .u64 0, .string ⟨#[]⟩, .slice none 0 0]) 13 184 Tryz.underlying25 HJ.out.1 HJ.out.2.1 HJ.out.2.2.1 HJ.out.2.2.2 rfl (by omega) _ m1 _ rfl HX1.out ⟨g2, 0, none⟩ m2 _ xs2 rfl hx2 hcell2 hone2 (by omega) (by have := HM1.out; have := HM2.out; simp only [maxLen]; omega) (by have := HM1.out; have := HM2.out; omega) HKC.out.size _ rfl ?_
          intro g3 cap3 w8 ho2 hg2 hat hgl
          have HBT := Lib.hid (GrZ.both HX1.out HV1.out (HKB.out.size) (fun k hk => by have h1 := (HG1.out.lt k hk).2; have h2 := HKAB.out.size; omega) ho2 hg2 hat hpk2)
          have HK8 := Lib.hid (own_kept6 HKC.out HX1.out (Nat.le_refl _) hg2)
          refine hK.out _ _ ?_ (fun hHeld => ?_)
          · exact HK8.out
          clear hK K ho2 hg2 hat hgl hcell2 hone2 hpk2 hx2
          try simp only [Act.put, List.setIfInBounds_toArray]
          refine wpAnyH_take (i := 8) (oi := ?o8x6) (v := ?v8x6) ?hi8x6 (by kernel_rfl) (by kernel_rfl) (by kernel_rfl) ?hQ8x6 ?hy8x6 hHeld ?rest8x6
          case hi8x6 => (simp only [List.getElem?_toArray, List.getElem?_cons_succ, List.getElem?_cons_zero]; rfl)
          case hQ8x6 => exact fun _ _ _ h => h
          case hy8x6 => (refine Or.inl ⟨by rfl, ?_⟩; intro W hSw; (try dsimp only at hSw); go_simp; (try with_reducible rfl))
          try simp only [Act.put]
          refine wpAnyH_done (by kernel_rfl) ?_ _
          refine to_tail (by assumption) ?_
          refine law_loop1 _ _ _ W5.heap.size n (m1 + m2) _ _ kk _ _ _ _ _ _ _ _ _ _ _ _ _ _ _ _ _ _ _ _ _ _ _ _ _ _ _ _ _ _ _ _ _ _ _ _ _ _ _ _ _ _ _ _ _ _ _ _ _ _ _ _ _ _ _ _ _ _ _ _ _ _ _ _ _ _ _ _ _ _ _ _ _ _ _ _ _ _ (by have := HM1.out; have := HM2.out; omega) (HBT.out) (fun _ _ d _ _ h => by cases d <;> exact h) ?_
          intro pv w9 u8 u33 u34 u35 u36 u37 u38 u39 u40 u41 u42 u43 u44 u45 u46 hps9 hk9
          refine to_tail (by assumption) ?_
          refine law_rest _ w9 _ _ gb n nc w3.heap.size rt (m1 + m2) pv kk ng mg bt tx ks _ _ _ _ _ _ _ _ _ _ _ _ _ _ _ _ _ _ _ _ _ _ _ _ _ _ _ _ _ _ _ _ _ _ _ _ _ _ _ _ _ _ _ _ _ _ _ _ _ _ _ _ _ _ _ _ _ _ _ _ _ _ _ _ _ _ _ _ _ _ _ _ _ _ _ _ _ _ _ _ (by have := HM1.out; have := HM2.out; omega) HOK.out HRT.out (HGM.out.below ((HK8.out).trans hk9)) (HB5.out.below ((HK8.out).trans hk9)) hps9 (fun _ _ d _ _ h => by cases d <;> exact h) ?_
          intro w10 z0 z1 z2 z3 z5 z6 z7 z8 z9 z10 z11 z12 z13 z14 z15 z16 z17 z18 z19 z20 z21 z22 z23 z24 z25 z26 z27 z28 z29 z30 z31 z32 z33 z34 z35 z36 z37 z38 z39 z40 z41 z42 z43 z44 z45 z46 z47 z48 z49 z50 z51 z52 z53 z54 z55 z56 z57 z58 z59 z60 z61 z62 z63 z64 z65 z66 z67 z68 z69 z70 z71 z72 z73 z74 z75 z76 z77 z78 z79 z80 z81 hk10
          go_ret
          exact ⟨rfl, HK0.out.trans (HK5.out.trans (((HK8.out).trans hk9).trans hk10))⟩
      · go_simp
        have hkz : Kept W5 (W5.alloc (.cells #[.int .i64 0, .int .i64 0, .bool false, .slice none 0 0, .int .u64 0, .string ⟨#[]⟩, .slice none 0 0, .int .i64 0, .bool false, .slice none 0 0, .int .u64 0, .string ⟨#[]⟩, .slice none 0 0] 35)).drew := by go_grown
        have HKZ := Lib.hid hkz
        have HZ5 : Hid (PIn (W5.alloc (.cells #[.int .i64 0, .int .i64 0, .bool false, .slice none 0 0, .int .u64 0, .string ⟨#[]⟩, .slice none 0 0, .int .i64 0, .bool false, .slice none 0 0, .int .u64 0, .string ⟨#[]⟩, .slice none 0 0] 35)).drew (some ⟨W5.heap.size, 0, none⟩) 0) := Lib.hid ((zero_poke W5).below (by go_grown))
        clear hkz
        refine hK.out _ _ ?_ (fun hHeld => ?_)
        · (exact HKZ.out)
        clear hK K
        try simp only [Act.put, List.setIfInBounds_toArray, List.set_cons_zero, List.set_cons_succ]
        refine wpAnyH_ready (rs := [2]) (by kernel_rfl) (by simp) ?_
        refine (AllReadyH.cons rfl (fun K hK => ?_) AllReadyH.nil)
        go_simp
        (with_reducible refine Calls.mono (Pokes_any gb n nc lm lc (rt : Int) LA kk ng mg bt tx ks HOK.out _ (HGM.out.below HKZ.out) HLM.out (fun i hi => HL.out _ (HK5.out.trans HKZ.out) i hi)) ?_)
        rintro e wa ⟨⟨s1, m1, rfl, hm1, hnil1, hg1⟩, hka⟩
        have hkaw : Kept W5 wa := HKZ.out.trans hka
        have HKA := Lib.hid hkaw
        have HM1 := Lib.hid hm1
        have HG1 : Hid (GrZ (PK13 n kk) 13 35 (fun b => W5.heap.size ≤ b) W5.heap.size wa m1 s1) := Lib.hid (hg1.weak (PK13.moves n kk) (fun b hb => Nat.le_trans HKZ.out.size hb) HKZ.out.size)
        obtain ⟨A1, c1, rfl, hc1⟩ := hg1.slice2
        have HC1 := Lib.hid hc1
        have HZP : Hid (PIn wa (some ⟨W5.heap.size, 0, none⟩) 0) := Lib.hid (HZ5.out.below hka)
        clear hka hkaw hg1 hm1 hnil1 hc1
        refine hK.out _ _ ?_ (fun hHeld => ?_)
        · (exact HKA.out)
        clear hK K
        try simp only [Act.put, List.setIfInBounds_toArray, List.set_cons_zero, List.set_cons_succ]
        refine wpAnyH_ready (rs := [6]) (by kernel_rfl) (by simp) ?_
        refine (AllReadyH.cons rfl (fun K hK => ?_) AllReadyH.nil)
        go_simp
        have HKB : Hid (Kept W5 wa) := HKA
        have HKAB : Hid (Kept wa wa) := Lib.hid (Below.refl _ _)
        (with_reducible refine Calls.mono (Pokes_any gb n nc 1 1 (rt : Int) (some ⟨W5.heap.size, 0, none⟩) kk ng mg bt tx ks HOK.out _ (HGM.out.below HKB.out) (by decide) (fun i hi => by have e0 : i = 0 := (by omega); rw [e0]; exact HZP.out)) ?_)
        rintro e wc ⟨⟨s2, m2, rfl, hm2, hnil2, hg2⟩, hkc⟩
        have HKC := Lib.hid (HKB.out.trans hkc)
        have HM2 := Lib.hid hm2
        obtain ⟨A2, c2, rfl⟩ := hg2.slice
        have HNIL2 := Lib.hid hnil2
        have HG2 := Lib.hid hg2
        have HKAC : Hid (Kept wa wc) := Lib.hid (HKAB.out.trans hkc)
        clear hkc hg2 hm2 hnil2
        refine hK.out _ _ ?_ (fun hHeld => ?_)
        · (exact HKC.out)
        clear hK K
        try simp only [Act.put, List.setIfInBounds_toArray, List.set_cons_zero, List.set_cons_succ]
        obtain ⟨j0, hj0, hj1, hj2, hj3⟩ := info_Pk
        have HJ : Hid (Tryz.prog.info? 35 = some j0 ∧ j0.zero = some (.agg #[.int .i64 0, .int .i64 0, .bool false, .slice none 0 0, .int .u64 0, .string ⟨#[]⟩, .slice none 0 0, .int .i64 0, .bool false, .slice none 0 0, .int .u64 0, .string ⟨#[]⟩, .slice none 0 0]) ∧ j0.size = 13 ∧ j0.bytes = 184) := Lib.hid ⟨hj0, hj1, hj2, hj3⟩
        clear hj0 hj1 hj2 hj3
        by_cases hm20 : m2 = 0
        · have e2 := HNIL2.out hm20
          subst hm20
          injection e2 with e2 e3 e4
          subst e2 e4
          refine wpAnyH_ready (rs := [7]) (by kernel_rfl) (by simp) ?_
          refine (AllReadyH.cons rfl (fun K hK => ?_) AllReadyH.nil)
          refine step_append_nil rfl (.tmp 26) (.tmp 30) 25 rfl 35 j0 Tryz.underlying25 HJ.out.1 A1 m1 c1 rfl HC1.out rfl ?_
          refine hK.out _ _ ?_ (fun hHeld => ?_)
          · exact HKC.out
          clear hK K
          try simp only [Act.put, List.setIfInBounds_toArray]
          refine wpAnyH_take (i := 8) (oi := ?o8x7) (v := ?v8x7) ?hi8x7 (by kernel_rfl) (by kernel_rfl) (by kernel_rfl) ?hQ8x7 ?hy8x7 hHeld ?rest8x7
          case hi8x7 => (simp only [List.getElem?_toArray, List.getElem?_cons_succ, List.getElem?_cons_zero]; rfl)
          case hQ8x7 => exact fun _ _ _ h => h
          case hy8x7 => (refine Or.inl ⟨by rfl, ?_⟩; intro W hSw; (try dsimp only at hSw); go_simp; (try with_reducible rfl))
          try simp only [Act.put]
          refine wpAnyH_done (by kernel_rfl) ?_ _
          refine to_tail (by assumption) ?_
          refine law_loop1 _ _ _ W5.heap.size n m1 c1 A1 kk _ _ _ _ _ _ _ _ _ _ _ _ _ _ _ _ _ _ _ _ _ _ _ _ _ _ _ _ _ _ _ _ _ _ _ _ _ _ _ _ _ _ _ _ _ _ _ _ _ _ _ _ _ _ _ _ _ _ _ _ _ _ _ _ _ _ _ _ _ _ _ _ _ _ _ _ _ _ (by have := HM1.out; omega) (HG1.out.below (PK13.moves n kk) HKAC.out) (fun _ _ d _ _ h => by cases d <;> exact h) ?_
          intro pv w9 u8 u33 u34 u35 u36 u37 u38 u39 u40 u41 u42 u43 u44 u45 u46 hps9 hk9
          refine to_tail (by assumption) ?_
          refine law_rest _ w9 _ _ gb n nc w3.heap.size rt m1 pv kk ng mg bt tx ks _ _ _ _ _ _ _ _ _ _ _ _ _ _ _ _ _ _ _ _ _ _ _ _ _ _ _ _ _ _ _ _ _ _ _ _ _ _ _ _ _ _ _ _ _ _ _ _ _ _ _ _ _ _ _ _ _ _ _ _ _ _ _ _ _ _ _ _ _ _ _ _ _ _ _ _ _ _ _ _ (by have := HM1.out; omega) HOK.out HRT.out (HGM.out.below ((HKC.out).trans hk9)) (HB5.out.below ((HKC.out).trans hk9)) hps9 (fun _ _ d _ _ h => by cases d <;> exact h) ?_
          intro w10 z0 z1 z2 z3 z5 z6 z7 z8 z9 z10 z11 z12 z13 z14 z15 z16 z17 z18 z19 z20 z21 z22 z23 z24 z25 z26 z27 z28 z29 z30 z31 z32 z33 z34 z35 z36 z37 z38 z39 z40 z41 z42 z43 z44 z45 z46 z47 z48 z49 z50 z51 z52 z53 z54 z55 z56 z57 z58 z59 z60 z61 z62 z63 z64 z65 z66 z67 z68 z69 z70 z71 z72 z73 z74 z75 z76 z77 z78 z79 z80 z81 hk10
          go_ret
          exact ⟨rfl, HK0.out.trans (HK5.out.trans (((HKC.out).trans hk9).trans hk10))⟩
        · obtain ⟨g2, c2', xs2, e2, hB2, hx2, hcell2, hone2, hpk2⟩ := HG2.out.src (by omega)
          obtain ⟨xs1, hx1, hv1⟩ := HG1.out.below (PK13.moves n kk) HKAC.out
          have HX1 := Lib.hid hx1
          have HV1 := Lib.hid hv1
          clear hx1 hv1
          refine wpAnyH_ready (rs := [7]) (by kernel_rfl) (by simp) ?_
          refine (AllReadyH.cons rfl (fun K hK => ?_) AllReadyH.nil)
          cases e2
          refine step_append_lies _ rfl (.tmp 26) (.tmp 30) 25 rfl W5.heap.size 35 j0 (.agg #[.int .i64 0, .int .i64 0, .bool false, .slice none 0 0, .int .u64 0, .string ⟨#[]⟩, .slice none 0 0, .int .i64 0, .bool false, .slice none 0 0, .int .u64 0, .string ⟨#[]⟩, .slice none 0 0]) 13 184 Tryz.underlying25 HJ.out.1 HJ.out.2.1 HJ.out.2.2.1 HJ.out.2.2.2 rfl (by omega) _ m1 _ rfl HX1.out ⟨g2, 0, none⟩ m2 _ xs2 rfl hx2 hcell2 hone2 (by omega) (by have := HM1.out; have := HM2.out; simp only [maxLen]; omega) (by have := HM1.out; have := HM2.out; omega) HKC.out.size _ rfl ?_
          intro g3 cap3 w8 ho2 hg2 hat hgl
          have HBT := Lib.hid (GrZ.both HX1.out HV1.out (HKB.out.size) (fun k hk => by have h1 := (HG1.out.lt k hk).2; have h2 := HKAB.out.size; omega) ho2 hg2 hat hpk2)
          have HK8 := Lib.hid (own_kept6 HKC.out HX1.out (Nat.le_refl _) hg2)
          refine hK.out _ _ ?_ (fun hHeld => ?_)
          · exact HK8.out
          clear hK K ho2 hg2 hat hgl hcell2 hone2 hpk2 hx2
          try simp only [Act.put, List.setIfInBounds_toArray]
          refine wpAnyH_take (i := 8) (oi := ?o8x8) (v := ?v8x8) ?hi8x8 (by kernel_rfl) (by kernel_rfl) (by kernel_rfl) ?hQ8x8 ?hy8x8 hHeld ?rest8x8
          case hi8x8 => (simp only [List.getElem?_toArray, List.getElem?_cons_succ, List.getElem?_cons_zero]; rfl)
          case hQ8x8 => exact fun _ _ _ h => h
          case hy8x8 => (refine Or.inl ⟨by rfl, ?_⟩; intro W hSw; (try dsimp only at hSw); go_simp; (try with_reducible rfl))
          try simp only [Act.put]
          refine wpAnyH_done (by kernel_rfl) ?_ _
          refine to_tail (by assumption) ?_
          refine law_loop1 _ _ _ W5.heap.size n (m1 + m2) _ _ kk _ _ _ _ _ _ _ _ _ _ _ _ _ _ _ _ _ _ _ _ _ _ _ _ _ _ _ _ _ _ _ _ _ _ _ _ _ _ _ _ _ _ _ _ _ _ _ _ _ _ _ _ _ _ _ _ _ _ _ _ _ _ _ _ _ _ _ _ _ _ _ _ _ _ _ _ _ _ (by have := HM1.out; have := HM2.out; omega) (HBT.out) (fun _ _ d _ _ h => by cases d <;> exact h) ?_
          intro pv w9 u8 u33 u34 u35 u36 u37 u38 u39 u40 u41 u42 u43 u44 u45 u46 hps9 hk9
          refine to_tail (by assumption) ?_
          refine law_rest _ w9 _ _ gb n nc w3.heap.size rt (m1 + m2) pv kk ng mg bt tx ks _ _ _ _ _ _ _ _ _ _ _ _ _ _ _ _ _ _ _ _ _ _ _ _ _ _ _ _ _ _ _ _ _ _ _ _ _ _ _ _ _ _ _ _ _ _ _ _ _ _ _ _ _ _ _ _ _ _ _ _ _ _ _ _ _ _ _ _ _ _ _ _ _ _ _ _ _ _ _ _ (by have := HM1.out; have := HM2.out; omega) HOK.out HRT.out (HGM.out.below ((HK8.out).trans hk9)) (HB5.out.below ((HK8.out).trans hk9)) hps9 (fun _ _ d _ _ h => by cases d <;> exact h) ?_
          intro w10 z0 z1 z2 z3 z5 z6 z7 z8 z9 z10 z11 z12 z13 z14 z15 z16 z17 z18 z19 z20 z21 z22 z23 z24 z25 z26 z27 z28 z29 z30 z31 z32 z33 z34 z35 z36 z37 z38 z39 z40 z41 z42 z43 z44 z45 z46 z47 z48 z49 z50 z51 z52 z53 z54 z55 z56 z57 z58 z59 z60 z61 z62 z63 z64 z65 z66 z67 z68 z69 z70 z71 z72 z73 z74 z75 z76 z77 z78 z79 z80 z81 hk10
          go_ret
          exact ⟨rfl, HK0.out.trans (HK5.out.trans (((HK8.out).trans hk9).trans hk10))⟩
    · have hbig' : (2147483647 : Int) < (lm : Int) := by omega
      go_wp2_with fail
      go_ret
      exact ⟨rfl, HK0.out.trans HK1.out⟩
section
set_option maxRecDepth 100000
variable {H : Type} {enc : TypeId × Value → H}
theorem list6 {α : Type} {xs : List α} (h : xs.length = 6) : ∃ a b c d e f, xs = [a, b, c, d, e, f] := by
  match xs, h with
  | [a, b, c, d, e, f], _ => exact ⟨a, b, c, d, e, f, rfl⟩
theorem list3 {α : Type} {xs : List α} (h : xs.length = 3) : ∃ a b c, xs = [a, b, c] := by
  match xs, h with
  | [a, b, c], _ => exact ⟨a, b, c, rfl⟩
theorem list2 {α : Type} {xs : List α} (h : xs.length = 2) : ∃ a b, xs = [a, b] := by
  match xs, h with
  | [a, b], _ => exact ⟨a, b, rfl⟩
theorem list13 {α : Type} {xs : List α} (h : xs.length = 13) : ∃ n a0 a1 a2 a3 a4 a5 b0 b1 b2 b3 b4 b5, xs = [n, a0, a1, a2, a3, a4, a5, b0, b1, b2, b3, b4, b5] := by
  match xs, h with
  | [n, a0, a1, a2, a3, a4, a5, b0, b1, b2, b3, b4, b5], _ => exact ⟨n, a0, a1, a2, a3, a4, a5, b0, b1, b2, b3, b4, b5, rfl⟩
/-- the elements of a slice, out of its reading -/
theorem elems_of {t e : TypeId} {z : Nat} (hz : 0 < z) (ht : Tryz.prog.underlying t = some (.slice e)) (hc : Tryz.prog.cellsOf e = z) {W : World} {held : Bool} {fuel : Nat} {c : Value} {x : DataW H × List MemPlace} (h : DataW.trod enc Tryz.prog W 0 (fun _ => true) held fuel t [c] = some x) :
    ∃ (A : Option Addr) (len cap : Nat), c = .slice A len cap ∧ len ≤ cap ∧ cap ≤ maxLen ∧ ∀ i, i < len → ∃ (g o n : Nat) (cs : List Value) (y : DataW H × List MemPlace), A = some ⟨g, o, none⟩ ∧ cs.length = z ∧ (∀ j u, cs[j]? = some u → W.cell? ⟨g, o + i * z + j, none⟩ = some u) ∧ DataW.trod enc Tryz.prog W 0 (fun _ => true) held n e cs = some y := by
  rcases DataW.trod_slice ht h with ⟨hcs, _⟩ | ⟨a, len, cap, elems, rest, n, _, hcs, _, _, hl, hm, hlen, hel, _⟩
  · simp at hcs
    exact ⟨none, 0, 0, hcs, Nat.le_refl _, Nat.zero_le _, fun i hi => absurd hi (by omega)⟩
  · simp at hcs
    refine ⟨some a, len, cap, hcs, hl, hm, fun i hi => ?_⟩
    have h1 := hel i hi
    rw [List.getElem?_eq_getElem (by omega), hc] at h1
    obtain ⟨cs, h2, h3⟩ := Option.bind_eq_some_iff.1 h1
    obtain ⟨_, h4, h5⟩ := World.cells?_some h2
    obtain ⟨g, o, s⟩ := a
    have hs : s = none := by
      have g1 := hel 0 (by omega)
      rw [List.getElem?_eq_getElem (by omega), hc] at g1
      obtain ⟨cs0, g2, _⟩ := Option.bind_eq_some_iff.1 g1
      obtain ⟨_, g4, g5⟩ := World.cells?_some g2
      have g6 : ∃ v, cs0[0]? = some v := ⟨_, List.getElem?_eq_getElem (by omega)⟩
      obtain ⟨v, hv⟩ := g6
      have := World.cell?_spot ((g5 0 hz).trans hv)
      simpa [Addr.add] using this
    subst hs
    refine ⟨g, o, n, cs, _, rfl, h4, fun j u hj => ?_, h3⟩
    have hjz : j < z := by
      have := (List.getElem?_eq_some_iff.1 hj).1
      omega
    have h7 := (h5 j hjz).trans hj
    rwa [Go.WideShapes.add_plain, Go.WideShapes.add_plain] at h7
/-- bytes out of their reading -/
theorem bytes_of {W : World} {held : Bool} {fuel : Nat} {c : Value} {x : DataW H × List MemPlace} (h : DataW.trod enc Tryz.prog W 0 (fun _ => true) held fuel 29 [c] = some x) :
    ∃ (A : Option Addr) (cap : Nat) (l : List Nat), c = .slice A l.length cap ∧ Sl W A cap (by8 l) ∧ ∀ d ∈ l, d < 256 := by
  obtain ⟨A, len, cap, rfl, hl, hm, he⟩ := elems_of (z := 1) (by decide) Tryz.underlying29 (by kernel_rfl) h
  have hq : ∀ i : Nat, ∃ d : Nat, i < len → d < 256 ∧ ∃ g o, A = some ⟨g, o, none⟩ ∧ W.cell? ⟨g, o + i, none⟩ = some (.int .u8 (d : Int)) := fun i => by
    by_cases hi : i < len
    · obtain ⟨g, o, n, cs, y, e1, e2, e3, e4⟩ := he i hi
      obtain ⟨k, rfl, _, hw⟩ := DataW.trod_int Tryz.underlying5 e4
      have hb := bounds_u8 hw
      refine ⟨k.toNat, fun _ => ⟨by omega, g, o, e1, ?_⟩⟩
      have h9 := e3 0 _ rfl
      rw [Nat.mul_one, Nat.add_zero] at h9
      rw [h9, Int.toNat_of_nonneg hb.1]
    · exact ⟨0, fun h => absurd h hi⟩
  obtain ⟨f, hf⟩ := Classical.axiomOfChoice hq
  refine ⟨A, cap, (List.range len).map f, by simp, ⟨by rw [by8_len]; simpa using hl, hm, fun hx => ?_⟩, fun d hd => ?_⟩
  · have h0 : 0 < len := by
      rcases Nat.eq_zero_or_pos len with h0 | h0
      · subst h0
        exact absurd rfl hx
      · exact h0
    obtain ⟨_, g, o, e1, _⟩ := hf 0 h0
    refine ⟨g, o, e1, fun j u hj => ?_⟩
    have hjl : j < len := by
      have := (List.getElem?_eq_some_iff.1 hj).1
      rw [by8_len] at this
      simpa using this
    obtain ⟨_, g', o', e1', hc⟩ := hf j hjl
    rw [e1] at e1'
    injection e1' with e1'
    injection e1' with e2 e3
    subst e2 e3
    rw [by8_get _ _ (by simpa using hjl)] at hj
    simp only [List.getElem_map, List.getElem_range] at hj
    exact hc.trans hj
  · obtain ⟨i, hi, rfl⟩ := List.mem_map.1 hd
    exact (hf i (by simpa using hi)).1
/-- integers out of their reading -/
theorem ints_of {W : World} {held : Bool} {fuel : Nat} {c : Value} {x : DataW H × List MemPlace} (h : DataW.trod enc Tryz.prog W 0 (fun _ => true) held fuel 43 [c] = some x) :
    ∃ (A : Option Addr) (cap : Nat) (zs : List Int), c = .slice A zs.length cap ∧ Sl W A cap (ints zs) := by
  obtain ⟨A, len, cap, rfl, hl, hm, he⟩ := elems_of (z := 1) (by decide) Tryz.underlying43 (by kernel_rfl) h
  have hq : ∀ i : Nat, ∃ d : Int, i < len → ∃ g o, A = some ⟨g, o, none⟩ ∧ W.cell? ⟨g, o + i, none⟩ = some (.int .i64 d) := fun i => by
    by_cases hi : i < len
    · obtain ⟨g, o, n, cs, y, e1, e2, e3, e4⟩ := he i hi
      obtain ⟨k, rfl, _, hw⟩ := DataW.trod_int Tryz.underlying3 e4
      refine ⟨k, fun _ => ⟨g, o, e1, ?_⟩⟩
      have h9 := e3 0 _ rfl
      rwa [Nat.mul_one, Nat.add_zero] at h9
    · exact ⟨0, fun h => absurd h hi⟩
  obtain ⟨f, hf⟩ := Classical.axiomOfChoice hq
  refine ⟨A, cap, (List.range len).map f, by simp, ⟨by simpa [ints] using hl, hm, fun hx => ?_⟩⟩
  have h0 : 0 < len := by
    rcases Nat.eq_zero_or_pos len with h0 | h0
    · subst h0
      exact absurd rfl hx
    · exact h0
  obtain ⟨g, o, e1, _⟩ := hf 0 h0
  refine ⟨g, o, e1, fun j u hj => ?_⟩
  have hjl : j < len := by
    have := (List.getElem?_eq_some_iff.1 hj).1
    simpa [ints] using this
  obtain ⟨g', o', e1', hc⟩ := hf j hjl
  rw [e1] at e1'
  injection e1' with e1'
  injection e1' with e2 e3
  subst e2 e3
  have hj' : ((ints ((List.range len).map f))[j]?) = some (.int .i64 (f j)) := by simp [ints, hjl]
  rw [hj'] at hj
  exact hc.trans hj
/-- a node out of its reading -/
theorem node_of {W : World} {held : Bool} {fuel : Nat} {cs : List Value} (hl : cs.length = 6) {y : DataW H × List MemPlace} (h : DataW.trod enc Tryz.prog W 0 (fun _ => true) held fuel 45 cs = some y) (i : Nat) :
    ∃ c0 c1 c2 c3 c4 c5, cs = [c0, c1, c2, c3, c4, c5] ∧ RN (fun _ => True) i (fun _ => True) W (.agg #[c0, c1, c2, c3, c4, c5]) := by
  obtain ⟨c0, c1, c2, c3, c4, c5, rfl⟩ := list6 hl
  have t1 : Tryz.prog.cellsOf 3 = 1 := by kernel_rfl
  have t2 : Tryz.prog.cellsOf 4 = 1 := by kernel_rfl
  have t3 : Tryz.prog.cellsOf 29 = 1 := by kernel_rfl
  have t4 : Tryz.prog.cellsOf 30 = 1 := by kernel_rfl
  have t5 : Tryz.prog.cellsOf 9 = 1 := by kernel_rfl
  have t6 : Tryz.prog.cellsOf 43 = 1 := by kernel_rfl
  obtain ⟨xs, n, rfl, rfl, _, hlen, hf⟩ := DataW.trod_struct Tryz.underlying45 h
  obtain ⟨y0, y1, y2, y3, y4, y5, rfl⟩ := list6 hlen
  have h0 := hf 0 _ rfl
  have h1 := hf 1 _ rfl
  have h2 := hf 2 _ rfl
  have h3 := hf 3 _ rfl
  have h4 := hf 4 _ rfl
  have h5 := hf 5 _ rfl
  simp [t1, t2, t3, t4, t5, t6] at h0 h1 h2 h3 h4 h5
  obtain ⟨k, e0, _, _⟩ := DataW.trod_int Tryz.underlying3 h0
  obtain ⟨b, e1, _⟩ := DataW.trod_bool Tryz.underlying4 h1
  obtain ⟨q, e3, _, hq⟩ := DataW.trod_int Tryz.underlying30 h3
  obtain ⟨T, e4, _, _⟩ := DataW.trod_string Tryz.underlying9 h4
  obtain ⟨A, cap, l, e2, hs, hd⟩ := bytes_of h2
  obtain ⟨KA, kc, zs, e5, hk⟩ := ints_of h5
  have hb := bounds_u64 hq
  obtain ⟨q', rfl⟩ : ∃ q' : Nat, q = (q' : Int) := ⟨q.toNat, (Int.toNat_of_nonneg hb.1).symm⟩
  simp at e0 e1 e3 e4
  subst e0 e1 e2 e3 e4 e5
  exact ⟨_, _, _, _, _, _, rfl, k, b, A, cap, l, q', T, KA, kc, zs, rfl, hs, fun _ _ _ _ => trivial, hk, fun _ _ _ _ => trivial, hd, by omega, trivial⟩
/-- a value out of its reading, d levels down -/
theorem val_of (W : World) (held : Bool) : ∀ (d fuel : Nat) (cs : List Value) (y : DataW H × List MemPlace), cs.length = 6 → DataW.trod enc Tryz.prog W 0 (fun _ => true) held fuel 33 cs = some y →
    ∃ x c0 c1 c2 c3 c4 c5, cs = [c0, c1, c2, c3, c4, c5] ∧ RV W d x (.agg #[c0, c1, c2, c3, c4, c5]) := by
  intro d
  induction d with
  | zero =>
    intro fuel cs y hl h
    obtain ⟨c0, c1, c2, c3, c4, c5, rfl⟩ := list6 hl
    have t1 : Tryz.prog.cellsOf 3 = 1 := by kernel_rfl
    have t2 : Tryz.prog.cellsOf 4 = 1 := by kernel_rfl
    have t3 : Tryz.prog.cellsOf 29 = 1 := by kernel_rfl
    have t4 : Tryz.prog.cellsOf 30 = 1 := by kernel_rfl
    have t5 : Tryz.prog.cellsOf 9 = 1 := by kernel_rfl
    have t6 : Tryz.prog.cellsOf 31 = 1 := by kernel_rfl
    obtain ⟨xs, n, rfl, rfl, _, hlen, hf⟩ := DataW.trod_struct Tryz.underlying33 h
    obtain ⟨y0, y1, y2, y3, y4, y5, rfl⟩ := list6 hlen
    have h0 := hf 0 _ rfl
    have h1 := hf 1 _ rfl
    have h2 := hf 2 _ rfl
    have h3 := hf 3 _ rfl
    have h4 := hf 4 _ rfl
    have h5 := hf 5 _ rfl
    simp [t1, t2, t3, t4, t5, t6] at h0 h1 h2 h3 h4 h5
    obtain ⟨k, e0, _, _⟩ := DataW.trod_int Tryz.underlying3 h0
    obtain ⟨b, e1, _⟩ := DataW.trod_bool Tryz.underlying4 h1
    obtain ⟨q, e3, _, hq⟩ := DataW.trod_int Tryz.underlying30 h3
    obtain ⟨T, e4, _, _⟩ := DataW.trod_string Tryz.underlying9 h4
    obtain ⟨A, cap, l, e2, hs, hd⟩ := bytes_of h2
    obtain ⟨KA, kn, kc, e5, hkl, hkc, hke⟩ := elems_of (z := 6) (by decide) Tryz.underlying31 (by kernel_rfl) h5
    have hb := bounds_u64 hq
    obtain ⟨q', rfl⟩ : ∃ q' : Nat, q = (q' : Int) := ⟨q.toNat, (Int.toNat_of_nonneg hb.1).symm⟩
    simp at e0 e1 e3 e4
    subst e0 e1 e2 e3 e4 e5
    exact ⟨k, _, _, _, _, _, _, rfl, b, A, cap, l, q', T, KA, kn, kc, rfl, hs, hd, by omega, by simp only [maxLen] at hkc; omega, trivial⟩
  | succ d ih =>
    intro fuel cs y hl h
    obtain ⟨c0, c1, c2, c3, c4, c5, rfl⟩ := list6 hl
    have t1 : Tryz.prog.cellsOf 3 = 1 := by kernel_rfl
    have t2 : Tryz.prog.cellsOf 4 = 1 := by kernel_rfl
    have t3 : Tryz.prog.cellsOf 29 = 1 := by kernel_rfl
    have t4 : Tryz.prog.cellsOf 30 = 1 := by kernel_rfl
    have t5 : Tryz.prog.cellsOf 9 = 1 := by kernel_rfl
    have t6 : Tryz.prog.cellsOf 31 = 1 := by kernel_rfl
    obtain ⟨xs, n, rfl, rfl, _, hlen, hf⟩ := DataW.trod_struct Tryz.underlying33 h
    obtain ⟨y0, y1, y2, y3, y4, y5, rfl⟩ := list6 hlen
    have h0 := hf 0 _ rfl
    have h1 := hf 1 _ rfl
    have h2 := hf 2 _ rfl
    have h3 := hf 3 _ rfl
    have h4 := hf 4 _ rfl
    have h5 := hf 5 _ rfl
    simp [t1, t2, t3, t4, t5, t6] at h0 h1 h2 h3 h4 h5
    obtain ⟨k, e0, _, _⟩ := DataW.trod_int Tryz.underlying3 h0
    obtain ⟨b, e1, _⟩ := DataW.trod_bool Tryz.underlying4 h1
    obtain ⟨q, e3, _, hq⟩ := DataW.trod_int Tryz.underlying30 h3
    obtain ⟨T, e4, _, _⟩ := DataW.trod_string Tryz.underlying9 h4
    obtain ⟨A, cap, l, e2, hs, hd⟩ := bytes_of h2
    obtain ⟨KA, kn, kc, e5, hkl, hkc, hke⟩ := elems_of (z := 6) (by decide) Tryz.underlying31 (by kernel_rfl) h5
    have hb := bounds_u64 hq
    obtain ⟨q', rfl⟩ : ∃ q' : Nat, q = (q' : Int) := ⟨q.toNat, (Int.toNat_of_nonneg hb.1).symm⟩
    simp at e0 e1 e3 e4
    subst e0 e1 e2 e3 e4 e5
    refine ⟨k, _, _, _, _, _, _, rfl, b, A, cap, l, q', T, KA, kn, kc, rfl, hs, hd, by omega, by simp only [maxLen] at hkc; omega, fun i hi => ?_⟩
    obtain ⟨g, o, m, cs, y', e1, e2, e3, e4⟩ := hke i hi
    obtain ⟨x, d0, d1, d2, d3, d4, d5, rfl, hr⟩ := ih _ _ _ e2 e4
    exact ⟨g, o, x, _, e1, ⟨d0, d1, d2, d3, d4, d5, rfl, by have := e3 0 _ rfl; rwa [Nat.add_zero] at this, e3 1 _ rfl, e3 2 _ rfl, e3 3 _ rfl, e3 4 _ rfl, e3 5 _ rfl⟩, hr⟩
/-- the nodes of a given graph -/
theorem nodes_of {W : World} {held : Bool} {fuel : Nat} {c : Value} {x : DataW H × List MemPlace} (h : DataW.trod enc Tryz.prog W 0 (fun _ => true) held fuel 22 [c] = some x) :
    ∃ (A : Option Addr) (n cap : Nat), c = .slice A n cap ∧ n ≤ 9223372036854775807 ∧ ∀ i, i < n → NIn W A i := by
  obtain ⟨A, len, cap, rfl, hl, hm, he⟩ := elems_of (z := 6) (by decide) Tryz.underlying22 (by kernel_rfl) h
  refine ⟨A, len, cap, rfl, by simp only [maxLen] at hm; omega, fun i hi => ?_⟩
  obtain ⟨g, o, m, cs, y, e1, e2, e3, e4⟩ := he i hi
  obtain ⟨d0, d1, d2, d3, d4, d5, rfl, hr⟩ := node_of e2 e4 i
  exact ⟨g, o, _, e1, ⟨d0, d1, d2, d3, d4, d5, rfl, by have := e3 0 _ rfl; rwa [Nat.add_zero] at this, e3 1 _ rfl, e3 2 _ rfl, e3 3 _ rfl, e3 4 _ rfl, e3 5 _ rfl⟩, hr⟩
/-- the given pokes -/
theorem pokes_of {W : World} {held : Bool} {fuel : Nat} {c : Value} {x : DataW H × List MemPlace} (h : DataW.trod enc Tryz.prog W 0 (fun _ => true) held fuel 25 [c] = some x) :
    ∃ (A : Option Addr) (n cap : Nat), c = .slice A n cap ∧ n ≤ 9223372036854775807 ∧ ∀ i, i < n → PIn W A i := by
  obtain ⟨A, len, cap, rfl, hl, hm, he⟩ := elems_of (z := 13) (by decide) Tryz.underlying25 (by kernel_rfl) h
  refine ⟨A, len, cap, rfl, by simp only [maxLen] at hm; omega, fun i hi => ?_⟩
  obtain ⟨g, o, m, cs, y, e1, e2, e3, e4⟩ := he i hi
  obtain ⟨n0, a0, a1, a2, a3, a4, a5, b0, b1, b2, b3, b4, b5, rfl⟩ := list13 e2
  have t1 : Tryz.prog.cellsOf 3 = 1 := by kernel_rfl
  have t2 : Tryz.prog.cellsOf 33 = 6 := by kernel_rfl
  obtain ⟨xs, n, rfl, rfl, _, hlen, hf⟩ := DataW.trod_struct Tryz.underlying35 e4
  obtain ⟨y0, y1, y2, rfl⟩ := list3 hlen
  have h0 := hf 0 _ rfl
  have h1 := hf 1 _ rfl
  have h2 := hf 2 _ rfl
  simp [t1, t2] at h0 h1 h2
  obtain ⟨N, e0, _, _⟩ := DataW.trod_int Tryz.underlying3 h0
  simp at e0
  subst e0
  obtain ⟨x, d0, d1, d2, d3, d4, d5, ea, hra⟩ := val_of W held 2 _ _ _ rfl h1
  obtain ⟨x', f0, f1, f2, f3, f4, f5, eb, hrb⟩ := val_of W held 2 _ _ _ rfl h2
  simp only [List.cons.injEq, and_true] at ea eb
  obtain ⟨rfl, rfl, rfl, rfl, rfl, rfl⟩ := ea
  obtain ⟨rfl, rfl, rfl, rfl, rfl, rfl⟩ := eb
  exact ⟨g, o, N, x, x', _, _, _, _, _, _, _, _, _, _, _, _, e1, e3, hra, hrb⟩
/-- a given graph -/
theorem graph_of {W : World} {r : Reach} {b0 : Nat} {v : Value} {d : DataW H} {p : List MemPlace} (hv : Value.okWide Tryz.prog W r b0 24 v) (h : DataW.Trod enc Tryz.prog W 0 (fun _ => true) true 24 v d p) :
    ∃ (A : Option Addr) (n cap : Nat) (root : Int), v = .agg #[.slice A n cap, .int .i64 root] ∧ n ≤ 9223372036854775807 ∧ ∀ i, i < n → NIn W A i := by
  have t0 : Tryz.prog.cellsOf 24 = 2 := by kernel_rfl
  have t1 : Tryz.prog.cellsOf 3 = 1 := by kernel_rfl
  have t2 : Tryz.prog.cellsOf 22 = 1 := by kernel_rfl
  obtain ⟨cs, rfl, hcs⟩ : ∃ cs, v = .agg cs ∧ cs.size = 2 := by
    simp only [Value.okWide, Tryz.underlying24] at hv
    obtain ⟨cs, h1, h2, _⟩ := hv
    exact ⟨cs, h1, h2.trans t0⟩
  obtain ⟨cs⟩ := cs
  obtain ⟨c0, c1, rfl⟩ := list2 (show cs.length = 2 from hcs)
  obtain ⟨fuel, hf⟩ := h
  obtain ⟨xs, n, rfl, hx, _, hlen, hfi⟩ := DataW.trod_struct Tryz.underlying24 hf
  obtain ⟨y0, y1, rfl⟩ := list2 hlen
  have h0 := hfi 0 _ rfl
  have h1 := hfi 1 _ rfl
  simp [t1, t2, Value.cells] at h0 h1
  obtain ⟨root, e1, _, _⟩ := DataW.trod_int Tryz.underlying3 h1
  simp at e1
  subst e1
  obtain ⟨A, m, cap, rfl, hm, hg⟩ := nodes_of h0
  exact ⟨A, m, cap, root, rfl, hm, hg⟩
end
end Go.Proofs.YtoociokhldakbaaGreat
