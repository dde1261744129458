/- The law of the parts around a part, walked -/
import Derived.Test.YtcamjefacbaniaaGreatPj
namespace Go.Proofs.YtcamjefacbaniaaGreat
open Go.ChangeShapes Go.WideShapes Go.ChangeAt Go.RowKit
set_option linter.unusedVariables false
set_option maxRecDepth 100000 in
set_option maxHeartbeats 8000000 in
theorem FnTextPartition_any (back : Bool) (S1 S2 : ByteArray) (w : World) :
    Calls Tryz.prog 3 #[.bool back, .string S1, .string S2] w fun e w' => e = .returned (.bool true) ∧ Kept w w' := by
  by_cases hS : S1.size ≤ 2147483647
  · have hS' : ¬ (2147483647 : Int) < (S1.size : Int) := by omega
    by_cases hU : S2.size ≤ 2147483647
    · have hU' : ¬ (2147483647 : Int) < (S2.size : Int) := by omega
      go_enter Tryz.func3, Tryz.ntmps3
      go_wp2_with fail
      refine (Ascii_any S1 hS w).mono ?_
      rintro e w1 ⟨T, rfl, hT, ha, hk1⟩
      go_wp2_with fail
      refine (Ascii_any S2 hU w1).mono ?_
      rintro e w2 ⟨P, rfl, hP, hb, hk2⟩
      have HK2 := Lib.hid (hk1.trans hk2)
      clear hk1 hk2 ha hb
      go_wp2_with fail
      refine wp_region_inv2 (I := fun L a w => ∃ s : Nat → Value, a = { tmps := #[.bool back, .string S1, .string S2, undef, undef, undef, .bool false, .string T, .string P, s 9, s 10, s 11, undef, undef, undef, undef, .string S1, .int .i64 S1.size, .bool false, .bool false, .string S2, .int .i64 S2.size, .bool false, .bool false, .string S1, .string T, .string S2, .string P, s 28, s 29, s 30, s 31, s 32, s 33, s 34, s 35, s 36, s 37, s 38, s 39, s 40, undef, undef, undef, undef, undef, undef, undef, undef, undef, undef, undef, undef, undef, undef, undef, undef, undef, undef, undef, undef, undef, undef, undef, undef, undef, undef, undef, undef, undef], defers := [] } ∧ PF back T P w2 L w s) (by rfl) (by kernel_rfl) ?_ ?_ ?_
      · exact ⟨fun _ => undef, rfl, (PF.start w2 _).drew (by go_grown)⟩
      · rintro L a w i o hcl ⟨s, rfl, h⟩ ho hf hall
        have N : ∀ {a b : Nat}, (L a = true → L b = true) → L b = false → L a = false := fun {a b} h1 h2 => by
          cases h3 : L a
          · rfl
          · rw [h1 h3] at h2; cases h2
        have d42 : L 4 = true → L 2 = true := fun h => hcl 4 _ rfl h ⟨2, .data⟩ (by simp) rfl
        have d43 : L 4 = true → L 3 = true := fun h => hcl 4 _ rfl h ⟨3, .data⟩ (by simp) rfl
        have d64 : L 6 = true → L 4 = true := fun h => hcl 6 _ rfl h ⟨4, .data⟩ (by simp) rfl
        have da6 : L 10 = true → L 6 = true := fun h => hcl 10 _ rfl h ⟨6, .data⟩ (by simp) rfl
        have dba : L 11 = true → L 10 = true := fun h => hcl 11 _ rfl h ⟨10, .data⟩ (by simp) rfl
        have dcb : L 12 = true → L 11 = true := fun h => hcl 12 _ rfl h ⟨11, .data⟩ (by simp) rfl
        have ddb : L 13 = true → L 11 = true := fun h => hcl 13 _ rfl h ⟨11, .data⟩ (by simp) rfl
        have deb : L 14 = true → L 11 = true := fun h => hcl 14 _ rfl h ⟨11, .data⟩ (by simp) rfl
        have dgc : L 16 = true → L 12 = true := fun h => hcl 16 _ rfl h ⟨12, .data⟩ (by simp) rfl
        have dgf : L 16 = true → L 15 = true := fun h => hcl 16 _ rfl h ⟨15, .data⟩ (by simp) rfl
        have dhd : L 17 = true → L 13 = true := fun h => hcl 17 _ rfl h ⟨13, .data⟩ (by simp) rfl
        have die : L 18 = true → L 14 = true := fun h => hcl 18 _ rfl h ⟨14, .data⟩ (by simp) rfl
        have d21 : L 2 = true → L 1 = true := fun h => hcl 2 _ rfl h ⟨1, .data⟩ (by simp) rfl
        have d31 : L 3 = true → L 1 = true := fun h => hcl 3 _ rfl h ⟨1, .data⟩ (by simp) rfl
        clear hcl
        rcases (by
          have := (Array.getElem?_eq_some_iff.1 ho).1
          simp only [List.size_toArray, List.length_cons, List.length_nil] at this
          omega : i = 0 ∨ i = 1 ∨ i = 2 ∨ i = 3 ∨ i = 4 ∨ i = 5 ∨ i = 6 ∨ i = 7 ∨ i = 8 ∨ i = 9 ∨ i = 10 ∨ i = 11 ∨ i = 12 ∨ i = 13 ∨ i = 14 ∨ i = 15 ∨ i = 16 ∨ i = 17 ∨ i = 18) with rfl | rfl | rfl | rfl | rfl | rfl | rfl | rfl | rfl | rfl | rfl | rfl | rfl | rfl | rfl | rfl | rfl | rfl | rfl
        all_goals
          obtain rfl := Option.some.inj ho
          refine wpOp_of rfl rfl ?_
        · exact Oper.wp_val (.string T) rfl ⟨_, rfl, h.o0⟩
        · exact Oper.wp_val (.map (some w.heap.size)) rfl ⟨_, rfl, h.o1 (N d21 hf) (N d31 hf)⟩
        · obtain ⟨m, e, hm1, hm2⟩ := h.f1 (hall ⟨1, .data⟩ (by simp) rfl)
          have x4 := N d42 hf
          have xa := N (fun h => d64 (da6 h)) x4
          have xb := N dba xa
          have xg := N (fun h => dcb (dgc h)) xb
          have hm3 := hm2 xg
          rw [hf] at hm3
          obtain ⟨w', hr, hn, hk, hs, q1, q2, q3⟩ := hm3.addF
          refine Oper.wp_skip (w' := w') ?_ rfl ⟨s, rfl, h.map hm3 hm1 hk hs q1 q2 q3 x4 xa xb xg (fun k h2 h3 => if_neg h2) (fun _ => ⟨m, e, hm1, fun _ => hn⟩)⟩
          show (do Instr.mapUpdate 31 (s 30) (.bool false) (.string ⟨#[112, 97, 114, 116, 105, 116, 105, 111, 110]⟩); pure .skip : Sem Next).run _ _ = _
          rw [e]
          simp [hr, Result.andThen]
        · obtain ⟨m, e, hm1, hm2⟩ := h.f1 (hall ⟨1, .data⟩ (by simp) rfl)
          have x4 := N d43 hf
          have xa := N (fun h => d64 (da6 h)) x4
          have xb := N dba xa
          have xg := N (fun h => dcb (dgc h)) xb
          have hm3 := hm2 xg
          rw [hf] at hm3
          obtain ⟨w', hr, hn, hk, hs, q1, q2, q3⟩ := hm3.addT
          refine Oper.wp_skip (w' := w') ?_ rfl ⟨s, rfl, h.map hm3 hm1 hk hs q1 q2 q3 x4 xa xb xg (fun k h2 h3 => if_neg h3) (fun _ => ⟨m, e, hm1, fun _ => hn⟩)⟩
          show (do Instr.mapUpdate 31 (s 30) (.bool true) (.string ⟨#[114, 112, 97, 114, 116, 105, 116, 105, 111, 110]⟩); pure .skip : Sem Next).run _ _ = _
          rw [e]
          simp [hr, Result.andThen]
        · exact Oper.wp_val (s 30) rfl ⟨_, rfl, h.o4 (hall ⟨1, .data⟩ (by simp) rfl) (hall ⟨2, .data⟩ (by simp) rfl) (hall ⟨3, .data⟩ (by simp) rfl)⟩
        · exact Oper.wp_val (.bool back) rfl ⟨_, rfl, h.o5⟩
        · obtain ⟨m, e, hm⟩ := h.f4 (hall ⟨4, .data⟩ (by simp) rfl)
          have e5 := h.f5 (hall ⟨5, .data⟩ (by simp) rfl)
          have xg := N (fun h => da6 (dba (dcb (dgc h)))) hf
          refine Oper.wp_val (.string (nmPart back)) ?_ ⟨_, rfl, h.o6⟩
          show (do pure (.value (← Instr.lookup 31 (s 31) (s 32) false)) : Sem Next).run _ _ = _
          rw [e, e5]
          simp [(hm xg).get back, Result.andThen]
        · exact Oper.wp_val (.string P) rfl ⟨_, rfl, h.o7⟩
        · have e7 := h.f7 (hall ⟨7, .data⟩ (by simp) rfl)
          refine Oper.wp_call (R := fun w v w' => v = .agg (tvv P) ∧ Kept w w') (w' := w) (f := 7) (args := #[.string P]) ?_ ((TextVal_any P w).mono ?_) ?_
          · simp [go_sem, e7]
          · rintro e w' ⟨rfl, hk⟩
            exact ⟨_, rfl, rfl, hk⟩
          · rintro v w' ⟨rfl, hk⟩
            exact ⟨_, rfl, h.o8.drew hk⟩
        · have e8 := h.f8 (hall ⟨8, .data⟩ (by simp) rfl)
          refine Oper.wp_val (.slice (some ⟨w.heap.size, 0, none⟩) 1 1) ?_ ⟨_, rfl, h.o9⟩
          simp [go_sem, e8, tvv]
        · have e0 := h.f0 (hall ⟨0, .data⟩ (by simp) rfl)
          have e6 := h.f6 (hall ⟨6, .data⟩ (by simp) rfl)
          obtain ⟨g, e9, hg⟩ := h.f9 (hall ⟨9, .data⟩ (by simp) rfl)
          have xg := N (fun h => dba (dcb (dgc h))) hf
          refine Oper.wp_call (R := fun w v w' => RetBoth back T P w v w') (w' := w) (f := 6) (args := #[.string T, .string (nmPart back), .slice (some ⟨g, 0, none⟩) 1 1]) ?_ (asked_both back T P hT hP g 1 w (hg xg)) ?_
          · simp [go_sem, e0, e6, e9]
          · intro v w' hv
            exact ⟨_, rfl, h.o10 hv⟩
        · exact Oper.wp_val (s 37) rfl ⟨_, rfl, h.o11 (hall ⟨10, .data⟩ (by simp) rfl) (N ddb hf) (N deb hf)⟩
        · obtain ⟨u, x, y, e, h1, h2, _⟩ := h.f11 (hall ⟨11, .data⟩ (by simp) rfl)
          refine Oper.wp_val (.agg u) ?_ ⟨_, rfl, h.o12 h1 h2⟩
          show (do pure (.value (← Instr.extract (s 28) 0)) : Sem Next).run _ _ = _
          rw [e]
          rfl
        · obtain ⟨u, x, y, e, h1, h2, _⟩ := h.f11 (hall ⟨11, .data⟩ (by simp) rfl)
          refine Oper.wp_val x ?_ ⟨_, rfl, h.o13 e (N dhd hf)⟩
          show (do pure (.value (← Instr.extract (s 28) 1)) : Sem Next).run _ _ = _
          rw [e]
          rfl
        · obtain ⟨u, x, y, e, h1, h2, _⟩ := h.f11 (hall ⟨11, .data⟩ (by simp) rfl)
          refine Oper.wp_val y ?_ ⟨_, rfl, h.o14 e (N die hf)⟩
          show (do pure (.value (← Instr.extract (s 28) 2)) : Sem Next).run _ _ = _
          rw [e]
          rfl
        · refine Oper.wp_val (.pointer (some ⟨w.heap.size, 0, none⟩)) ?_ ⟨_, rfl, h.o15⟩
          simp [go_sem, zv]
        · obtain ⟨u, e12, h1, h2⟩ := h.f12 (hall ⟨12, .data⟩ (by simp) rfl)
          obtain ⟨x, e15, hx, hb⟩ := h.f15 (hall ⟨15, .data⟩ (by simp) rfl)
          refine Oper.wp_skip (w' := w.setRow x u) ?_ rfl ⟨s, rfl, h.o16 (hb hf) hx _⟩
          have hst := run_storeVar_row (P := Tryz.prog) w x 27 27 _ u (hb hf) (by rw [h1]; exact info_V) (by rw [h1]; rfl) h2
          simp [go_sem, h1] at hst
          simp [go_sem, e12, e15, hst]
          exact h1
        · exact Oper.wp_val (s 39) rfl ⟨_, rfl, h.o17⟩
        · exact Oper.wp_val (s 40) rfl ⟨_, rfl, h.o18⟩
      · rintro L a w ⟨s, rfl, h⟩ hl
        obtain ⟨hA, hk⟩ := h.done hl
        have HK := Lib.hid (HK2.out.trans hk)
        clear h hl hk
        rcases hA with ⟨h0, e11, r, A, c, e10, hp, hs⟩ | ⟨h0, e10, e11⟩
        · simp only [e10, e11]
          have HP := Lib.hid hp
          have HS := Lib.hid hs
          clear hp hs e10 e11
          go_wp2_with fail
          refine (TextPartition_yes back T P hT hP h0 w).mono ?_
          rintro e w3 ⟨r3, A3, c3, rfl, hp3, hs3, hk3⟩
          obtain rfl := hp3.unique HP.out
          have HS3 := Lib.hid hs3
          have HSB := Lib.hid (HS.out.below hk3)
          have HK3 := Lib.hid (HK.out.trans hk3)
          clear hp3 hs3 hk3
          go_wp2_with fail
          refine (sameTexts_any A3 A c3 c _ (prt_len _ _ _ _) w3 HS3.out HSB.out).mono ?_
          rintro e w4 ⟨rfl, rfl⟩
          go_wp2_with fail
          go_ret
          exact ⟨rfl, HK3.out⟩
        · simp only [e10, e11]
          clear e10 e11
          go_wp2_with fail
          refine (TextPartition_no back T P h0 w).mono ?_
          rintro e w3 ⟨rfl, hk3⟩
          have HK3 := Lib.hid (HK.out.trans hk3)
          clear hk3 h0
          go_wp2_with fail
          refine (TextPartition_yes false ⟨#[97, 98]⟩ ⟨#[98]⟩ (by decide) (by decide) (by decide) w3).mono ?_
          rintro e w4 ⟨r4, A4, c4, rfl, _, _, hk4⟩
          have HK4 := Lib.hid (HK3.out.trans hk4)
          clear hk4
          go_wp2_with fail
          go_ret
          exact ⟨rfl, HK4.out⟩
    · have hU' : (2147483647 : Int) < (S2.size : Int) := by omega
      go_enter Tryz.func3, Tryz.ntmps3
      go_wp2_with fail
      go_ret
      exact ⟨rfl, Below.refl _ _⟩
  · have hS' : (2147483647 : Int) < (S1.size : Int) := by omega
    go_enter Tryz.func3, Tryz.ntmps3
    go_wp2_with fail
    go_ret
    exact ⟨rfl, Below.refl _ _⟩
end Go.Proofs.YtcamjefacbaniaaGreat
