/- The reference's lines, walked -/
import Derived.Test.YtcamjefacbaniaaGreatDoorLf
namespace Go.Proofs.YtcamjefacbaniaaGreatDoor
open Go.ChangeShapes Go.WideShapes Go.ChangeAt Go.RowKit
set_option linter.unusedVariables false
theorem results_cell_tmp {fn : Func} {p q : Tmp} {ty : TypeId} (h : fn.results = #[.cell p ty, .tmp q]) (P : Program) (tmps : Array Value) (w : World) (g : Nat) (t : TypeId) (cs : Array Value) (fr : Nat × Nat) (d : Array Field)
    (hp : tmps.getD p undef = .pointer (some ⟨g, 0, none⟩)) (hg : w.heap[g]? = some (.cells cs t fr))
    (hu : P.underlying ty = some (.struct d)) (hi : (P.info? ty).map (·.size) = some cs.size) :
    (results fn tmps).run P w = .ok (.tuple #[.agg cs, tmps.getD q undef]) w := by
  have e : tmps[p]?.getD undef = .pointer (some ⟨g, 0, none⟩) := by simpa using hp
  simp [results, h, e, asAddr, run_loadVar_row w g t ty cs fr _ hg hu rfl hi]
theorem results_cell_tmp_tmp {fn : Func} {p q r : Tmp} {ty : TypeId} (h : fn.results = #[.cell p ty, .tmp q, .tmp r]) (P : Program) (tmps : Array Value) (w : World) (g : Nat) (t : TypeId) (cs : Array Value) (fr : Nat × Nat) (d : Array Field)
    (hp : tmps.getD p undef = .pointer (some ⟨g, 0, none⟩)) (hg : w.heap[g]? = some (.cells cs t fr))
    (hu : P.underlying ty = some (.struct d)) (hi : (P.info? ty).map (·.size) = some cs.size) :
    (results fn tmps).run P w = .ok (.tuple #[.agg cs, tmps.getD q undef, tmps.getD r undef]) w := by
  have e : tmps[p]?.getD undef = .pointer (some ⟨g, 0, none⟩) := by simpa using hp
  simp [results, h, e, asAddr, run_loadVar_row w g t ty cs fr _ hg hu rfl hi]
/-- what the law asks of the reference: a truth -/
def RetTruth (b : Bool) (w : World) (e : Ending) (w' : World) : Prop := e = .returned (.tuple #[.agg (bvv b), .bool true]) ∧ Kept w w'
set_option maxRecDepth 100000 in
set_option maxHeartbeats 1000000 in
theorem bvv_size (b : Bool) : (bvv b).size = 6 := rfl
/-- the reference's list of lines -/
def RetRef (keep : Bool) (T : ByteArray) (w : World) (e : Ending) (w' : World) : Prop := ∃ B d, e = .returned (.tuple #[.agg (lvv B (lins keep T).length d), .bool true]) ∧ w'.ownsRow w.heap.size 27 6 (.slice B (lins keep T).length d) (lins keep T).length (tvs (lins keep T)) ∧ Kept w w'
theorem own_setRow {w : World} {B B' e z n g : Nat} {v : Value} {xs : List Value} {cs : Array Value} (h : w.ownsRow B e z v n xs) (hg : g < B) (hb : B' ≤ B) : (w.setRow g cs).ownsRow B' e z v n xs := by
  obtain ⟨h1, h2⟩ := h
  refine ⟨h1, ?_⟩
  rcases h2 with h2 | ⟨g1, cap, cur, h3, h4, h5, h6⟩
  · exact .inl h2
  · exact .inr ⟨g1, cap, cur, h3, by omega, (setRow_other _ _ _ _ (by omega)).trans h5, h6⟩
set_option maxRecDepth 100000 in
set_option maxHeartbeats 4000000 in
theorem refLines_any (keep : Bool) (T : ByteArray) (hT : T.size ≤ 60) (ga ca : Nat) (w : World) (hg : Blk w ga 27 (bvv keep)) :
    Calls Tryz.prog 19 #[.string T, .slice (some ⟨ga, 0, none⟩) 1 ca] w (RetRef keep T w) := by
  obtain ⟨i0, hi0, hz0, hz1, hz2⟩ := info_parts infoStr2
  have hV0 := Blk.new w 27 #[.int .i64 0, .bool false, .slice none 0 0, .int .u64 0, .string ⟨#[]⟩, .slice none 0 0]
  have hk0 : Kept w (w.alloc (.cells #[.int .i64 0, .bool false, .slice none 0 0, .int .u64 0, .string ⟨#[]⟩, .slice none 0 0] 27)) := (Below.refl _ _).alloc (Nat.le_refl _) _
  have hsz := World.size_alloc w (.cells #[.int .i64 0, .bool false, .slice none 0 0, .int .u64 0, .string ⟨#[]⟩, .slice none 0 0] 27)
  have hg0 := hg.below hk0
  have hld := run_loadVar_row (P := Tryz.prog) (w.alloc (.cells #[.int .i64 0, .bool false, .slice none 0 0, .int .u64 0, .string ⟨#[]⟩, .slice none 0 0] 27)) ga 27 27 (bvv keep) (0, 0) _ hg0 Tryz.underlying27 rfl (by cases keep <;> exact info_V)
  simp [go_sem] at hld
  have HV0 := Lib.hid hV0
  have HK0 := Lib.hid hk0
  have HSZ := Lib.hid hsz
  have HG0 := Lib.hid hg0
  have HTI : Hid ((T.size : Int) ≤ 60) := Lib.hid (by omega)
  clear hV0 hk0 hsz hg0 hg
  go_enter Tryz.func19, Tryz.ntmps19
  go_wp2_with fail
  generalize w.alloc (.cells #[.int .i64 0, .bool false, .slice none 0 0, .int .u64 0, .string ⟨#[]⟩, .slice none 0 0] 27) = Z at *
  refine (Truth_any keep Z).mono ?_
  rintro e Z1 ⟨rfl, hkz⟩
  have hgz := HG0.out.below hkz
  have c0 : Z1.cell? ⟨ga, 0, none⟩ = some (.int .i64 1) := hgz.cell 0
  have HKZ := Lib.hid (HK0.out.trans hkz)
  have HVZ := Lib.hid (HV0.out.below hkz)
  have HZL := Lib.hid (show w.heap.size < Z1.heap.size from Nat.lt_of_lt_of_le HV0.out.lt hkz.size)
  clear hld hkz hgz
  go_wp2_with fail
  clear c0
  go_loopw [7, 8, 9] (fun lv fv iv wr => ∃ (k f : Nat) (o : List ByteArray), iv = .int .i64 k ∧ fv = .int .i64 f ∧ k ≤ T.size ∧ Hid (lns keep T k = (f, o)) ∧ wr.ownsRow Z1.heap.size 9 1 lv o.length (strs o) ∧ Hid (Kept Z1 wr)) (fun _ _ iv _ => T.size - (intOf iv).toNat)
  case atStart => exact ⟨0, 0, [], rfl, rfl, Nat.zero_le _, Lib.hid rfl, by simpa [strs] using World.ownsRow_nil _ _ _ _, Lib.hid (Below.refl _ _)⟩
  case round =>
    obtain ⟨k, f, o, rfl, rfl, hk, HL, hown, HK⟩ := hrel
    obtain ⟨A2, cap, rfl⟩ := own_slice hown
    have hfk : f ≤ k := by have := lns_le keep T k; rw [HL.out] at this; exact this
    have hol : o.length ≤ k := by have := lns_len keep T k; rw [HL.out] at this; exact this
    have HOWN := Lib.hid hown
    clear hown
    by_cases hlt : k < T.size
    · have k1 : (k : Int) < (T.size : Int) := by omega
      have hbg := bt_get T k hlt
      cases hq : nl T k
      · have hne : ¬ bt T k = 10 := fun h => by rw [nl, decide_eq_true h] at hq; cases hq
        have hne2 : ¬ ((bt T k : Nat) : Int) = 10 := by omega
        have HN : Hid (lns keep T (k + 1) = (f, o)) := Lib.hid (by rw [lns, hq]; exact HL.out)
        clear hq
        go_wp2_with fail
        exact ⟨⟨k + 1, f, o, by go_num, rfl, by omega, HN, HOWN.out, HK⟩, by simp [intOf]; omega⟩
      · have hbe : bt T k = 10 := of_decide_eq_true hq
        rw [hbe] at hbg
        have HN : Hid (lns keep T (k + 1) = (k + 1, o ++ [T.extract f (if keep then k + 1 else k)])) := Lib.hid (by rw [lns, hq, HL.out]; rfl)
        clear hq hbe
        have hk60 : (k : Int) ≤ 60 := by have := HTI.out; omega
        have hf1 : (f : Int) ≤ (k : Int) := by omega
        have hk1 : (k : Int) + 1 ≤ (T.size : Int) := by omega
        cases keep
        · have hels : strs (o ++ [T.extract f k]) = strs o ++ [.string (T.extract f k)] := strs_append o _
          have HELS := Lib.hid hels
          have hown2 := HOWN.out.alloc (.cells #[.string (T.extract f k)] 9)
          have hlit : Sl (wr.alloc (.cells #[.string (T.extract f k)] 9)) (some ⟨wr.heap.size, 0, none⟩) 1 [.string (T.extract f k)] := Sl.of_blk (cs := #[.string (T.extract f k)]) (Blk.new _ _ _) (by unfold maxLen; simp)
          have hbw3 : Kept Z1 (wr.alloc (.cells #[.string (T.extract f k)] 9)) := HK.out.alloc HK.out.size _
          have HOWN2 := Lib.hid hown2
          have HLIT := Lib.hid hlit
          have HBW3 := Lib.hid hbw3
          have hzz := HK.out.size
          clear hels hown2 hlit hbw3
          go_wp2_with (at_builtin; refine wpList_append_sl rfl (.tmp 50) (.tmp 55) 28 rfl Z1.heap.size 9 i0 (.string ByteArray.empty) 16 Tryz.underlying28 hi0 hz0 hz1 hz2 rfl _ o.length (strs o) rfl HOWN2.out _ 1 _ [.string (T.extract f k)] rfl rfl HLIT.out (by intro u hu; rw [List.mem_singleton.1 hu]; rfl) (by unfold maxLen; omega) (by omega) (by simp only [World.size_alloc]; omega) ?_; intro v1 w1_ hown1 hg1)
          rw [← HELS.out] at hown1
          have hkk : Kept Z1 w1_ := Below.grown HBW3.out hg1 HBW3.out.size (fun q hq => (HOWN2.out.lt _ hq).1)
          exact ⟨⟨k + 1, k + 1, o ++ [T.extract f k], by go_num, by go_num, by omega, HN, by simpa using hown1, Lib.hid hkk⟩, by simp [intOf]; omega⟩
        · have hels : strs (o ++ [T.extract f (k + 1)]) = strs o ++ [.string (T.extract f (k + 1))] := strs_append o _
          have HELS := Lib.hid hels
          have hown2 := HOWN.out.alloc (.cells #[.string (T.extract f (k + 1))] 9)
          have hlit : Sl (wr.alloc (.cells #[.string (T.extract f (k + 1))] 9)) (some ⟨wr.heap.size, 0, none⟩) 1 [.string (T.extract f (k + 1))] := Sl.of_blk (cs := #[.string (T.extract f (k + 1))]) (Blk.new _ _ _) (by unfold maxLen; simp)
          have hbw3 : Kept Z1 (wr.alloc (.cells #[.string (T.extract f (k + 1))] 9)) := HK.out.alloc HK.out.size _
          have HOWN2 := Lib.hid hown2
          have HLIT := Lib.hid hlit
          have HBW3 := Lib.hid hbw3
          have hzz := HK.out.size
          have hf2 : (f : Int) ≤ (k : Int) + 1 := by omega
          clear hels hown2 hlit hbw3
          go_wp2_with (at_builtin; refine wpList_append_sl rfl (.tmp 50) (.tmp 55) 28 rfl Z1.heap.size 9 i0 (.string ByteArray.empty) 16 Tryz.underlying28 hi0 hz0 hz1 hz2 rfl _ o.length (strs o) rfl HOWN2.out _ 1 _ [.string (T.extract f (k + 1))] rfl rfl HLIT.out (by intro u hu; rw [List.mem_singleton.1 hu]; rfl) (by unfold maxLen; omega) (by omega) (by simp only [World.size_alloc]; omega) ?_; intro v1 w1_ hown1 hg1)
          rw [← HELS.out] at hown1
          have hkk : Kept Z1 w1_ := Below.grown HBW3.out hg1 HBW3.out.size (fun q hq => (HOWN2.out.lt _ hq).1)
          exact ⟨⟨k + 1, k + 1, o ++ [T.extract f (k + 1)], by go_num, by go_num, by omega, HN, by simpa using hown1, Lib.hid hkk⟩, by simp [intOf]; omega⟩
    · obtain rfl : k = T.size := by omega
      have hol61 : o.length ≤ 60 := by omega
      by_cases hf : f < T.size
      · have hfI : (f : Int) < (T.size : Int) := by omega
        have hfI2 : (f : Int) ≤ (T.size : Int) := by omega
        have hli : lins keep T = o ++ [T.extract f T.size] := by unfold lins; rw [HL.out]; simp only; rw [if_pos hf]
        have HLI := Lib.hid hli
        have hels : strs (o ++ [T.extract f T.size]) = strs o ++ [.string (T.extract f T.size)] := strs_append o _
        have HELS := Lib.hid hels
        have hown2 := HOWN.out.alloc (.cells #[.string (T.extract f T.size)] 9)
        have hlit : Sl (wr.alloc (.cells #[.string (T.extract f T.size)] 9)) (some ⟨wr.heap.size, 0, none⟩) 1 [.string (T.extract f T.size)] := Sl.of_blk (cs := #[.string (T.extract f T.size)]) (Blk.new _ _ _) (by unfold maxLen; simp)
        have hbw3 : Kept Z1 (wr.alloc (.cells #[.string (T.extract f T.size)] 9)) := HK.out.alloc HK.out.size _
        have HOWN2 := Lib.hid hown2
        have HLIT := Lib.hid hlit
        have HBW3 := Lib.hid hbw3
        have hzz := HK.out.size
        clear hels hown2 hlit hbw3 hli hk hfk
        go_wp2_with (at_builtin; refine wpList_append_sl rfl (.tmp 63) (.tmp 67) 28 rfl Z1.heap.size 9 i0 (.string ByteArray.empty) 16 Tryz.underlying28 hi0 hz0 hz1 hz2 rfl _ o.length (strs o) rfl HOWN2.out _ 1 _ [.string (T.extract f T.size)] rfl rfl HLIT.out (by intro u hu; rw [List.mem_singleton.1 hu]; rfl) (by unfold maxLen; omega) (by omega) (by simp only [World.size_alloc]; omega) ?_; intro v1 w1_ hown1 hg1)
        rw [← HELS.out] at hown1
        obtain ⟨A3, c3, rfl⟩ := own_slice hown1
        have hkk : Kept Z1 w1_ := Below.grown HBW3.out hg1 HBW3.out.size (fun q hq => (HOWN2.out.lt _ hq).1)
        refine (texts_any A3 (o.length + 1) c3 (o ++ [T.extract f T.size]) (by simp) (by omega) w1_ (Sl.of_own hown1).1).mono ?_
        rintro e w5 ⟨B, d, rfl, ho5, hk5⟩
        have hk6 := hkk.trans hk5
        have hV5 := HVZ.out.below hk6
        have hst := run_storeVar_row (P := Tryz.prog) w5 w.heap.size 27 27 _ (lvv B (o.length + 1) d) hV5 info_V rfl (by simp [Value.oneCell', lvv])
        simp [go_sem, lvv_size] at hst
        have HO5 := Lib.hid ho5
        have HK6 := Lib.hid (HKZ.out.trans hk6)
        have hz6 := hkk.size
        clear hk5 hk6 ho5 hown1 hkk
        go_wp2_with fail
        refine bodyPost_ret (results_cell_tmp rfl _ _ _ w.heap.size 27 (lvv B (o.length + 1) d) _ _ rfl (setRow_heap _ _ _ _ _ _ hV5) Tryz.underlying27 (by exact info_V)) rfl ?_
        have hle : (lins keep T).length = o.length + 1 := by rw [HLI.out]; simp
        refine ⟨B, d, by rw [hle]; rfl, ?_, below_setRow HK6.out (Nat.le_refl _) _⟩
        rw [hle, HLI.out]
        exact own_setRow HO5.out (by have := HZL.out; omega) (by have := HZL.out; omega)
      · have hfI : ¬ (f : Int) < (T.size : Int) := by omega
        have hli : lins keep T = o := by unfold lins; rw [HL.out]; simp only; rw [if_neg hf, List.append_nil]
        have HLI := Lib.hid hli
        have hzz := HK.out.size
        clear hli hk hfk
        go_wp2_with fail
        refine (texts_any A2 o.length cap o rfl (by omega) wr (Sl.of_own HOWN.out).1).mono ?_
        rintro e w5 ⟨B, d, rfl, ho5, hk5⟩
        have hk6 := HK.out.trans hk5
        have hV5 := HVZ.out.below hk6
        have hst := run_storeVar_row (P := Tryz.prog) w5 w.heap.size 27 27 _ (lvv B o.length d) hV5 info_V rfl (by simp [Value.oneCell', lvv])
        simp [go_sem, lvv_size] at hst
        have HO5 := Lib.hid ho5
        have HK6 := Lib.hid (HKZ.out.trans hk6)
        clear hk5 hk6 ho5
        go_wp2_with fail
        refine bodyPost_ret (results_cell_tmp rfl _ _ _ w.heap.size 27 (lvv B o.length d) _ _ rfl (setRow_heap _ _ _ _ _ _ hV5) Tryz.underlying27 (by exact info_V)) rfl ?_
        have hle : (lins keep T).length = o.length := by rw [HLI.out]
        refine ⟨B, d, by rw [hle]; rfl, ?_, below_setRow HK6.out (Nat.le_refl _) _⟩
        rw [hle, HLI.out]
        exact own_setRow HO5.out (by have := HZL.out; omega) (by have := HZL.out; omega)
end Go.Proofs.YtcamjefacbaniaaGreatDoor
