/- Freezing a value of a graph freezes just the lists that are reached from it. -/
import Derived.Test.YtoociokhldakbaaGreatN2
import Derived.Laws.EntriesVeiled
namespace Go.Proofs.YtoociokhldakbaaGreat
open Go.ChangeShapes Go.WideShapes Go.ChangeAt Go.RowKit
set_option linter.unusedVariables false
section
variable {n : Nat} {kd : Nat → NK} {ks : Nat → List Nat}
set_option maxRecDepth 100000 in
set_option maxHeartbeats 1000000 in
theorem tupFreeze (i : Nat) (hi : i < n) {A : Option Addr} {c : Nat} (hk : kd i = .tup A c) (F : Nat → Bool) (w : World) (hs : Shp n kd ks w F)
    (IH : ∀ d, d ∈ ks i → ∀ F' wr, Shp n kd ks wr F' → unf n kd F' ≤ unf n kd F → FrzC n kd ks wr F' d) :
    Calls Tryz.prog 100 #[.slice A (ks i).length c] w (FP n kd ks w F i) := by
  have FIN : Hid (∀ wr, LI n kd ks w F i (ks i).length wr → FP n kd ks w F i (.returned (.tuple #[])) wr) := Lib.hid fun wr ⟨Fj, h1, h2, h3, h4, h5, h6⟩ => by
    rw [List.take_length] at h5
    exact ⟨rfl, Fj, h1, h2, h3, h4, .tup hk h5, h6⟩
  have START := Lib.hid (LI.start hs i)
  have hlen := hs.len i hi
  have HI := Lib.hid hi
  have IHH := Lib.hid IH
  have ELEM : Hid (∀ j wr, j < (ks i).length → LI n kd ks w F i j wr → ∃ g off d, A = some ⟨g, off, none⟩ ∧ (ks i)[j]? = some d ∧ wr.cell? ⟨g, off + j, none⟩ = some ((kd d).val (ks d).length)) := Lib.hid fun j wr hj ⟨Fj, h1, _⟩ => by
    have hsl := (h1.tup i hi A c hk).1
    have hd : (ks i)[j]? = some (ks i)[j] := List.getElem?_eq_getElem hj
    obtain ⟨g, off, e, hc⟩ := hsl.at_ (fun e => by
      have := congrArg List.length e
      rw [List.length_map, List.length_nil] at this
      omega)
    exact ⟨g, off, (ks i)[j], e, hd, hc j _ (by rw [List.getElem?_map, hd]; rfl)⟩
  obtain ⟨m, hm⟩ : ∃ m, m = (ks i).length := ⟨_, rfl⟩
  rw [← hm] at FIN ELEM hlen ⊢
  have hmI : (m : Int) ≤ 1000000 := by omega
  clear hs hk hi IH hm hlen
  go_enter Tryz.func100, Tryz.ntmps100
  go_wp2_with fail
  go_loopw [6] (fun iv wr => ∃ j : Nat, iv = .int .i64 (j : Int) ∧ j ≤ m ∧ LI n kd ks w F i j wr) (fun iv _ => m - (intOf iv).toNat)
  case atStart => exact ⟨0, rfl, Nat.zero_le _, START.out⟩
  case round =>
    obtain ⟨j, rfl, hj, hL⟩ := hrel
    by_cases hlt : j < m
    · obtain ⟨g, off, d, rfl, hd, hc⟩ := ELEM.out j wr hlt hL
      obtain ⟨Fj, h1, h2, h3, h4, h5, h6⟩ := hL
      have NEXT : Hid (∀ e w', FP n kd ks wr Fj d e w' → e = .returned (.tuple #[]) ∧ LI n kd ks w F i (j + 1) w') := Lib.hid fun e w' ⟨he, F', g1, g2, g3⟩ => ⟨he, LI.step hd h2 h3 h4 h5 h6 g1 g2 g3⟩
      have hdn : d < n := nodup_elem h1 HI.out hd
      have hFR := IHH.out d (List.mem_of_getElem? hd) Fj wr h1 (unf_le h3)
      have SC : Hid (∀ v, kd d = .sc v → ScOk v ∧ ∀ w', Kept wr w' → LI n kd ks w F i (j + 1) w') := Lib.hid fun v hv => ⟨(h1.sc d hdn v hv).1, fun w' hk' => LI.step hd h2 h3 h4 h5 h6 (h1.below hk') (OnlyL.of_kept hk') (Frz.same (.sc hv))⟩
      have i0 : (0 : Int) ≤ (j : Int) := by omega
      have i1 : (j : Int) < (m : Int) := by omega
      have HJ := Lib.hid hlt
      unfold FrzC at hFR
      clear h1 h2 h3 h4 h5 h6 hdn hd hlt hj
      cases hkd : kd d with
      | list b' A' c' =>
        rw [hkd] at hc hFR
        simp only [NK.val] at hc hFR
        have HFR := Lib.hid hFR
        clear hFR hkd
        go_wp2_with fail
        (with_reducible refine Calls.mono HFR.out ?_)
        rintro e w' hp
        obtain ⟨rfl, hL2⟩ := NEXT.out _ _ hp
        clear hp
        have HL2 := Lib.hid hL2
        clear hL2
        go_wp2_with fail
        exact ⟨⟨j + 1, by go_num, by have := HJ.out; omega, HL2.out⟩, by have := HJ.out; simp [intOf]; omega⟩
      | tup A' c' =>
        rw [hkd] at hc hFR
        simp only [NK.val] at hc hFR
        have HFR := Lib.hid hFR
        clear hFR hkd
        go_wp2_with fail
        (with_reducible refine Calls.mono HFR.out ?_)
        rintro e w' hp
        obtain ⟨rfl, hL2⟩ := NEXT.out _ _ hp
        clear hp
        have HL2 := Lib.hid hL2
        clear hL2
        go_wp2_with fail
        exact ⟨⟨j + 1, by go_num, by have := HJ.out; omega, HL2.out⟩, by have := HJ.out; simp [intOf]; omega⟩
      | sc v =>
        obtain ⟨hv, hS⟩ := SC.out v hkd
        rw [hkd] at hc
        simp only [NK.val] at hc
        have HSC := Lib.hid hS
        clear hFR hkd hS
        rcases hv with rfl | ⟨bb, rfl⟩ | ⟨xx, pp, rfl⟩ | ⟨bb, rfl⟩ | ⟨ss, rfl⟩ | ⟨ss, rfl⟩
        · go_wp2_with fail
          (with_reducible refine Calls.mono (NoneFreeze_any _ _) ?_)
          rintro e w' ⟨rfl, hk'⟩
          have hL2 := HSC.out _ hk'
          clear hk'
          have HL2 := Lib.hid hL2
          clear hL2
          go_wp2_with fail
          exact ⟨⟨j + 1, by go_num, by have := HJ.out; omega, HL2.out⟩, by have := HJ.out; simp [intOf]; omega⟩
        · go_wp2_with fail
          (with_reducible refine Calls.mono (BoolFreeze_any _ _) ?_)
          rintro e w' ⟨rfl, hk'⟩
          have hL2 := HSC.out _ hk'
          clear hk'
          have HL2 := Lib.hid hL2
          clear hL2
          go_wp2_with fail
          exact ⟨⟨j + 1, by go_num, by have := HJ.out; omega, HL2.out⟩, by have := HJ.out; simp [intOf]; omega⟩
        · go_wp2_with fail
          (with_reducible refine Calls.mono (IntFreeze_any _ _ _) ?_)
          rintro e w' ⟨rfl, hk'⟩
          have hL2 := HSC.out _ hk'
          clear hk'
          have HL2 := Lib.hid hL2
          clear hL2
          go_wp2_with fail
          exact ⟨⟨j + 1, by go_num, by have := HJ.out; omega, HL2.out⟩, by have := HJ.out; simp [intOf]; omega⟩
        · go_wp2_with fail
          (with_reducible refine Calls.mono (FloatFreeze_any _ _) ?_)
          rintro e w' ⟨rfl, hk'⟩
          have hL2 := HSC.out _ hk'
          clear hk'
          have HL2 := Lib.hid hL2
          clear hL2
          go_wp2_with fail
          exact ⟨⟨j + 1, by go_num, by have := HJ.out; omega, HL2.out⟩, by have := HJ.out; simp [intOf]; omega⟩
        · go_wp2_with fail
          (with_reducible refine Calls.mono (StringFreeze_any _ _) ?_)
          rintro e w' ⟨rfl, hk'⟩
          have hL2 := HSC.out _ hk'
          clear hk'
          have HL2 := Lib.hid hL2
          clear hL2
          go_wp2_with fail
          exact ⟨⟨j + 1, by go_num, by have := HJ.out; omega, HL2.out⟩, by have := HJ.out; simp [intOf]; omega⟩
        · go_wp2_with fail
          (with_reducible refine Calls.mono (BytesFreeze_any _ _) ?_)
          rintro e w' ⟨rfl, hk'⟩
          have hL2 := HSC.out _ hk'
          clear hk'
          have HL2 := Lib.hid hL2
          clear hL2
          go_wp2_with fail
          exact ⟨⟨j + 1, by go_num, by have := HJ.out; omega, HL2.out⟩, by have := HJ.out; simp [intOf]; omega⟩
    · obtain rfl : j = m := by omega
      have HF := Lib.hid (FIN.out wr hL)
      clear hL
      go_wp2_with fail
      go_end0
      exact HF.out
set_option maxRecDepth 100000 in
set_option maxHeartbeats 1000000 in
theorem listFreeze (i : Nat) (hi : i < n) {b : Nat} {A : Option Addr} {c : Nat} (hk : kd i = .list b A c) (F : Nat → Bool) (w : World) (hs : Shp n kd ks w F)
    (IH : ∀ d, d ∈ ks i → ∀ F' wr, Shp n kd ks wr F' → unf n kd F' < unf n kd F → FrzC n kd ks wr F' d) :
    Calls Tryz.prog 94 #[.pointer (some ⟨b, 0, none⟩)] w (FP n kd ks w F i) := by
  have hb := (hs.lst i hi b A c hk).1
  have c1 : w.cell? ⟨b, 1, none⟩ = some (.bool (F i)) := hb.cell 1
  have fz1 := hb.frozen 1
  cases hF : F i
  · obtain ⟨hm1, hm2⟩ := hs.mark hi hk
    have hup : ∀ m, F m = true → (fun i' => if i' = i then true else F i') m = true := fun m h => by
      show (if m = i then true else F m) = true
      split
      · rfl
      · exact h
    have FIN : Hid (∀ wr, LI n kd ks (w.setCell ⟨b, 1, none⟩ (.bool true)) (fun i' => if i' = i then true else F i') i (ks i).length wr → FP n kd ks w F i (.returned (.tuple #[])) wr) := Lib.hid fun wr ⟨Fj, h1, h2, h3, h4, h5, h6⟩ => by
      rw [List.take_length] at h5
      have hfi : Fj i = true := h3 i (by show (if i = i then true else F i) = true; rw [if_pos rfl])
      refine ⟨rfl, Fj, h1, hm2.trans h2, fun m h => h3 m (hup m h), fun m h => ?_, .list hk hfi, fun m hm h7 h8 => ?_⟩
      · rcases h4 m h with h9 | h9
        · replace h9 : (if m = i then true else F m) = true := h9
          split at h9
          · rename_i e
            subst e
            exact .inr .refl
          · exact .inl h9
        · exact .inr h9
      · by_cases e : m = i
        · subst e
          exact h5
        · exact h6 m hm h7 (by show (if m = i then true else F m) = false; rw [if_neg e]; exact h8)
    have ULT : Hid (∀ Fj : Nat → Bool, (∀ m, (fun i' => if i' = i then true else F i') m = true → Fj m = true) → unf n kd Fj < unf n kd F) := Lib.hid fun Fj h3 => unf_lt hi hk hF (fun m h => h3 m (hup m h)) (h3 i (by show (if i = i then true else F i) = true; rw [if_pos rfl]))
    have START := Lib.hid (LI.start hm1 i)
    have hlen := hs.len i hi
    have hb1 := (hm1.lst i hi b A c hk).1
    have d0 : (w.setCell ⟨b, 1, none⟩ (.bool true)).cell? ⟨b, 0, none⟩ = some (.slice A (ks i).length c) := hb1.cell 0
    rw [hF] at c1
    have HI := Lib.hid hi
    have IHH := Lib.hid IH
    have ELEM : Hid (∀ j wr, j < (ks i).length → LI n kd ks (w.setCell ⟨b, 1, none⟩ (.bool true)) (fun i' => if i' = i then true else F i') i j wr → ∃ g off d, A = some ⟨g, off, none⟩ ∧ (ks i)[j]? = some d ∧ wr.cell? ⟨g, off + j, none⟩ = some ((kd d).val (ks d).length)) := Lib.hid fun j wr hj ⟨Fj, h1, _⟩ => by
      have hsl := (h1.lst i hi b A c hk).2.1
      have hd : (ks i)[j]? = some (ks i)[j] := List.getElem?_eq_getElem hj
      obtain ⟨g, off, e, hc⟩ := hsl.at_ (fun e => by
        have := congrArg List.length e
        rw [List.length_map, List.length_nil] at this
        omega)
      exact ⟨g, off, (ks i)[j], e, hd, hc j _ (by rw [List.getElem?_map, hd]; rfl)⟩
    obtain ⟨m, hm⟩ : ∃ m, m = (ks i).length := ⟨_, rfl⟩
    rw [← hm] at FIN ELEM hlen d0
    have hmI : (m : Int) ≤ 1000000 := by omega
    clear hs hk hi IH hm hlen hb hm1 hm2 hup hF hb1
    generalize hFF : (fun i' => if i' = i then true else F i') = F1 at *
    clear hFF
    go_enter Tryz.func94, Tryz.ntmps94
    go_wp2_with fail
    go_loopw [17] (fun iv wr => ∃ j : Nat, iv = .int .i64 (j : Int) ∧ j ≤ m ∧ LI n kd ks (w.setCell ⟨b, 1, none⟩ (.bool true)) F1 i j wr) (fun iv _ => m - (intOf iv).toNat)
    case atStart => exact ⟨0, rfl, Nat.zero_le _, START.out⟩
    case round =>
      obtain ⟨j, rfl, hj, hL⟩ := hrel
      by_cases hlt : j < m
      · obtain ⟨g, off, d, rfl, hd, hc⟩ := ELEM.out j wr hlt hL
        obtain ⟨Fj, h1, h2, h3, h4, h5, h6⟩ := hL
        have NEXT : Hid (∀ e w', FP n kd ks wr Fj d e w' → e = .returned (.tuple #[]) ∧ LI n kd ks (w.setCell ⟨b, 1, none⟩ (.bool true)) F1 i (j + 1) w') := Lib.hid fun e w' ⟨he, F', g1, g2, g3⟩ => ⟨he, LI.step hd h2 h3 h4 h5 h6 g1 g2 g3⟩
        have hdn : d < n := nodup_elem h1 HI.out hd
        have hFR := IHH.out d (List.mem_of_getElem? hd) Fj wr h1 (ULT.out Fj h3)
        have SC : Hid (∀ v, kd d = .sc v → ScOk v ∧ ∀ w', Kept wr w' → LI n kd ks (w.setCell ⟨b, 1, none⟩ (.bool true)) F1 i (j + 1) w') := Lib.hid fun v hv => ⟨(h1.sc d hdn v hv).1, fun w' hk' => LI.step hd h2 h3 h4 h5 h6 (h1.below hk') (OnlyL.of_kept hk') (Frz.same (.sc hv))⟩
        have i0 : (0 : Int) ≤ (j : Int) := by omega
        have i1 : (j : Int) < (m : Int) := by omega
        have HJ := Lib.hid hlt
        unfold FrzC at hFR
        clear h1 h2 h3 h4 h5 h6 hdn hd hlt hj
        cases hkd : kd d with
        | list b' A' c' =>
          rw [hkd] at hc hFR
          simp only [NK.val] at hc hFR
          have HFR := Lib.hid hFR
          clear hFR hkd
          go_wp2_with fail
          (with_reducible refine Calls.mono HFR.out ?_)
          rintro e w' hp
          obtain ⟨rfl, hL2⟩ := NEXT.out _ _ hp
          clear hp
          have HL2 := Lib.hid hL2
          clear hL2
          go_wp2_with fail
          exact ⟨⟨j + 1, by go_num, by have := HJ.out; omega, HL2.out⟩, by have := HJ.out; simp [intOf]; omega⟩
        | tup A' c' =>
          rw [hkd] at hc hFR
          simp only [NK.val] at hc hFR
          have HFR := Lib.hid hFR
          clear hFR hkd
          go_wp2_with fail
          (with_reducible refine Calls.mono HFR.out ?_)
          rintro e w' hp
          obtain ⟨rfl, hL2⟩ := NEXT.out _ _ hp
          clear hp
          have HL2 := Lib.hid hL2
          clear hL2
          go_wp2_with fail
          exact ⟨⟨j + 1, by go_num, by have := HJ.out; omega, HL2.out⟩, by have := HJ.out; simp [intOf]; omega⟩
        | sc v =>
          obtain ⟨hv, hS⟩ := SC.out v hkd
          rw [hkd] at hc
          simp only [NK.val] at hc
          have HSC := Lib.hid hS
          clear hFR hkd hS
          rcases hv with rfl | ⟨bb, rfl⟩ | ⟨xx, pp, rfl⟩ | ⟨bb, rfl⟩ | ⟨ss, rfl⟩ | ⟨ss, rfl⟩
          · go_wp2_with fail
            (with_reducible refine Calls.mono (NoneFreeze_any _ _) ?_)
            rintro e w' ⟨rfl, hk'⟩
            have hL2 := HSC.out _ hk'
            clear hk'
            have HL2 := Lib.hid hL2
            clear hL2
            go_wp2_with fail
            exact ⟨⟨j + 1, by go_num, by have := HJ.out; omega, HL2.out⟩, by have := HJ.out; simp [intOf]; omega⟩
          · go_wp2_with fail
            (with_reducible refine Calls.mono (BoolFreeze_any _ _) ?_)
            rintro e w' ⟨rfl, hk'⟩
            have hL2 := HSC.out _ hk'
            clear hk'
            have HL2 := Lib.hid hL2
            clear hL2
            go_wp2_with fail
            exact ⟨⟨j + 1, by go_num, by have := HJ.out; omega, HL2.out⟩, by have := HJ.out; simp [intOf]; omega⟩
          · go_wp2_with fail
            (with_reducible refine Calls.mono (IntFreeze_any _ _ _) ?_)
            rintro e w' ⟨rfl, hk'⟩
            have hL2 := HSC.out _ hk'
            clear hk'
            have HL2 := Lib.hid hL2
            clear hL2
            go_wp2_with fail
            exact ⟨⟨j + 1, by go_num, by have := HJ.out; omega, HL2.out⟩, by have := HJ.out; simp [intOf]; omega⟩
          · go_wp2_with fail
            (with_reducible refine Calls.mono (FloatFreeze_any _ _) ?_)
            rintro e w' ⟨rfl, hk'⟩
            have hL2 := HSC.out _ hk'
            clear hk'
            have HL2 := Lib.hid hL2
            clear hL2
            go_wp2_with fail
            exact ⟨⟨j + 1, by go_num, by have := HJ.out; omega, HL2.out⟩, by have := HJ.out; simp [intOf]; omega⟩
          · go_wp2_with fail
            (with_reducible refine Calls.mono (StringFreeze_any _ _) ?_)
            rintro e w' ⟨rfl, hk'⟩
            have hL2 := HSC.out _ hk'
            clear hk'
            have HL2 := Lib.hid hL2
            clear hL2
            go_wp2_with fail
            exact ⟨⟨j + 1, by go_num, by have := HJ.out; omega, HL2.out⟩, by have := HJ.out; simp [intOf]; omega⟩
          · go_wp2_with fail
            (with_reducible refine Calls.mono (BytesFreeze_any _ _) ?_)
            rintro e w' ⟨rfl, hk'⟩
            have hL2 := HSC.out _ hk'
            clear hk'
            have HL2 := Lib.hid hL2
            clear hL2
            go_wp2_with fail
            exact ⟨⟨j + 1, by go_num, by have := HJ.out; omega, HL2.out⟩, by have := HJ.out; simp [intOf]; omega⟩
      · obtain rfl : j = m := by omega
        have HF := Lib.hid (FIN.out wr hL)
        clear hL
        go_wp2_with fail
        go_end0
        exact HF.out
  · have FIN : Hid (FP n kd ks w F i (.returned (.tuple #[])) w) := Lib.hid ⟨rfl, F, hs, OnlyL.refl _, Frz.same (.list hk hF)⟩
    rw [hF] at c1
    clear hs hk hi IH hb hF
    go_enter Tryz.func94, Tryz.ntmps94
    go_wp2_with fail
    go_end0
    exact FIN.out
/-- every value of the graph can be frozen -/
theorem freeze_any : ∀ (u : Nat) (k : Nat), k < n → ∀ (F : Nat → Bool) (w : World), Shp n kd ks w F → unf n kd F ≤ u → FrzC n kd ks w F k := by
  intro u
  induction u using Nat.strongRecOn with
  | ind u ihu =>
    intro k
    induction k using Nat.strongRecOn with
    | ind k ihk =>
      intro hkn F w hs hu
      unfold FrzC
      cases hkd : kd k with
      | list b A c =>
        exact listFreeze k hkn hkd F w hs fun d hd F' wr hs' hlt => ihu (unf n kd F') (by omega) d (hs.kid k hkn d hd) F' wr hs' (Nat.le_refl _)
      | tup A c =>
        exact tupFreeze k hkn hkd F w hs fun d hd F' wr hs' hle => ihk d (hs.low k hkn A c hkd d hd) (hs.kid k hkn d hd) F' wr hs' (by omega)
      | sc v => trivial
end
end Go.Proofs.YtoociokhldakbaaGreat
