/- The parts' texts, asked. -/
import Derived.Test.YtcamjefacbaniaaGreatPe
namespace Go.Proofs.YtcamjefacbaniaaGreat
open Go.ChangeShapes Go.WideShapes Go.ChangeAt Go.RowKit
set_option linter.unusedVariables false
theorem infoStr2 : (Tryz.prog.info? 9).map (fun i => (i.zero, i.size, i.bytes)) = some (some (.string ByteArray.empty), 1, 16) := by kernel_rfl
/-- what the law asks: the parts' texts -/
def RetAsk (back : Bool) (T P : ByteArray) (w : World) (e : Ending) (w' : World) : Prop := ∃ r v A c, e = .returned (.tuple #[.agg v, .slice A 3 c, .bool true]) ∧ v.size = 6 ∧ v.all (·.oneCell') = true ∧ PlaceAt back T P (plc T P) r ∧ Sl w' A c (strs (prt back T P r)) ∧ Kept w w'
set_option maxRecDepth 100000 in
set_option maxHeartbeats 4000000 in
theorem asked_part (back : Bool) (T P : ByteArray) (hT : T.size ≤ 60) (hP : P.size ≤ 60) (h0 : 0 < P.size) (ga ca : Nat) (w : World) (hg : Blk w ga 27 (tvv P)) :
    Calls Tryz.prog 6 #[.string T, .string (nmPart back), .slice (some ⟨ga, 0, none⟩) 1 ca] w (RetAsk back T P w) := by
  obtain ⟨i0, hi0, hz0, hz1, hz2⟩ := info_parts infoStr2
  have hV0 := Blk.new w 27 #[.int .i64 0, .bool false, .slice none 0 0, .int .u64 0, .string ⟨#[]⟩, .slice none 0 0]
  have hk0 : Kept w (w.alloc (.cells #[.int .i64 0, .bool false, .slice none 0 0, .int .u64 0, .string ⟨#[]⟩, .slice none 0 0] 27)) := (Below.refl _ _).alloc (Nat.le_refl _) _
  have HC := Lib.hid (method_part back T P hT hP h0 ga ca _ (hg.below hk0))
  have HV0 := Lib.hid hV0
  have HK0 := Lib.hid hk0
  clear hV0 hk0 hT hP h0 hg
  go_enter Tryz.func6, Tryz.ntmps6
  go_wp2_with fail
  generalize w.alloc (.cells #[.int .i64 0, .bool false, .slice none 0 0, .int .u64 0, .string ⟨#[]⟩, .slice none 0 0] 27) = W0 at *
  refine (HC.out).mono ?_
  rintro e w2 ⟨r, g, rfl, hp, h3, hg3, hk2⟩
  have lV := HV0.out.lt
  have H := Lib.hid (HV0.out.below hk2)
  have HP := Lib.hid hp
  have HK := Lib.hid (HK0.out.trans hk2)
  have hst := run_storeVar_row (P := Tryz.prog) w2 w.heap.size 27 27 _ (kvv (some ⟨g, 0, none⟩) 3 3) H.out info_V rfl (by simp [Value.oneCell', kvv])
  simp [go_sem, kvv_size] at hst
  have hb3 : Blk (w2.setRow w.heap.size (kvv (some ⟨g, 0, none⟩) 3 3)) w.heap.size 27 (kvv (some ⟨g, 0, none⟩) 3 3) := setRow_heap _ _ _ _ _ _ H.out
  have hk3 : Kept w (w2.setRow w.heap.size (kvv (some ⟨g, 0, none⟩) 3 3)) := below_setRow HK.out (Nat.le_refl _) _
  have h3s := h3.setRow (k := w.heap.size) (by omega) (kvv (some ⟨g, 0, none⟩) 3 3)
  have c5 : (w2.setRow w.heap.size (kvv (some ⟨g, 0, none⟩) 3 3)).cell? ⟨w.heap.size, 5, none⟩ = some (.slice (some ⟨g, 0, none⟩) 3 3) := hb3.cell 5
  have HB3 := Lib.hid hb3
  have HK3 := Lib.hid hk3
  have H3 := Lib.hid h3s
  clear hb3 hk3 h3 h3s hp hk2
  go_wp2_with fail
  generalize w2.setRow w.heap.size (kvv (some ⟨g, 0, none⟩) 3 3) = W3 at *
  obtain ⟨a, b, c, habc, hbk0⟩ := H3.out
  rw [habc] at H3
  clear hst c5
  have HBK := Lib.hid hbk0
  have HABC := Lib.hid habc
  clear hbk0 habc H
  go_loopw [7, 21] (fun lv iv wr => ∃ (k : Nat) (z : Int), z = k ∧ k ≤ 3 ∧ iv = .int .i64 z ∧ wr.ownsRow W3.heap.size 9 1 lv k (strs ([a, b, c].take k)) ∧ Kept W3 wr) (fun _ iv _ => 3 - (intOf iv).toNat)
  case atStart => exact ⟨0, 0, rfl, by omega, rfl, by simpa [strs] using World.ownsRow_nil _ _ _ _, Below.refl _ _⟩
  case round =>
    obtain ⟨k, z, hzk, hk, rfl, hown, hbw⟩ := hrel
    obtain ⟨A2, cap, rfl⟩ := own_slice hown
    have hbk := HBK.out.below hbw
    rcases (by omega : k = 0 ∨ k = 1 ∨ k = 2 ∨ k = 3) with rfl | rfl | rfl | rfl
    · obtain rfl : z = 0 := by omega
      clear hzk hk
      have q0 : wr.cell? ⟨g, 0, none⟩ = some (.int .i64 4) := hbk.cell 0
      have q1 : wr.cell? ⟨g, 1, none⟩ = some (.bool false) := hbk.cell 1
      have q2 : wr.cell? ⟨g, 2, none⟩ = some (.slice none 0 0) := hbk.cell 2
      have q3 : wr.cell? ⟨g, 3, none⟩ = some (.int .u64 0) := hbk.cell 3
      have q4 : wr.cell? ⟨g, 4, none⟩ = some (.string a) := hbk.cell 4
      have q5 : wr.cell? ⟨g, 5, none⟩ = some (.slice none 0 0) := hbk.cell 5
      have hels : strs ([a, b, c].take 1) = strs ([a, b, c].take 0) ++ [.string a] := rfl
      have hown2 := (hown.alloc (.cells #[.int .i64 4, .bool false, .slice none 0 0, .int .u64 0, .string a, .slice none 0 0] 27)).alloc (.cells #[.string a] 9)
      have hsz2 := World.size_alloc wr (.cells #[.int .i64 4, .bool false, .slice none 0 0, .int .u64 0, .string a, .slice none 0 0] 27)
      have hlit : Sl ((wr.alloc (.cells #[.int .i64 4, .bool false, .slice none 0 0, .int .u64 0, .string a, .slice none 0 0] 27)).alloc (.cells #[.string a] 9)) (some ⟨wr.heap.size + 1, 0, none⟩) 1 [.string a] := by
        rw [← hsz2]
        exact Sl.of_blk (cs := #[.string a]) (Blk.new _ _ _) (by unfold maxLen; simp)
      have hbw3 : Kept W3 ((wr.alloc (.cells #[.int .i64 4, .bool false, .slice none 0 0, .int .u64 0, .string a, .slice none 0 0] 27)).alloc (.cells #[.string a] 9)) := (hbw.alloc hbw.size _).alloc (by rw [World.size_alloc]; have := hbw.size; omega) _
      have HOWN := Lib.hid hown2
      have HELS := Lib.hid hels
      have HLIT := Lib.hid hlit
      have HBW := Lib.hid hbw3
      have hzz := hbw.size
      clear hown hown2 hels hlit hbk hbw hbw3 hsz2
      go_wp2_with (at_builtin; refine wpList_append_sl rfl (.tmp 25) (.tmp 28) 28 rfl W3.heap.size 9 i0 (.string ByteArray.empty) 16 Tryz.underlying28 hi0 hz0 hz1 hz2 rfl _ 0 (strs ([a, b, c].take 0)) rfl HOWN.out _ 1 _ [.string a] rfl rfl HLIT.out (by intro u hu; rw [List.mem_singleton.1 hu]; rfl) (by unfold maxLen; omega) (by omega) (by simp only [World.size_alloc]; omega) ?_; intro v1 w1_ hown1 hg1)
      rw [← HELS.out] at hown1
      exact ⟨⟨1, 1, rfl, by omega, by go_num, hown1, Below.grown HBW.out hg1 HBW.out.size (fun q hq => (HOWN.out.lt _ hq).1)⟩, by simp [intOf]⟩
    · obtain rfl : z = 1 := by omega
      clear hzk hk
      have q0 : wr.cell? ⟨g, 6, none⟩ = some (.int .i64 4) := hbk.cell 6
      have q1 : wr.cell? ⟨g, 7, none⟩ = some (.bool false) := hbk.cell 7
      have q2 : wr.cell? ⟨g, 8, none⟩ = some (.slice none 0 0) := hbk.cell 8
      have q3 : wr.cell? ⟨g, 9, none⟩ = some (.int .u64 0) := hbk.cell 9
      have q4 : wr.cell? ⟨g, 10, none⟩ = some (.string b) := hbk.cell 10
      have q5 : wr.cell? ⟨g, 11, none⟩ = some (.slice none 0 0) := hbk.cell 11
      have hels : strs ([a, b, c].take 2) = strs ([a, b, c].take 1) ++ [.string b] := rfl
      have hown2 := (hown.alloc (.cells #[.int .i64 4, .bool false, .slice none 0 0, .int .u64 0, .string b, .slice none 0 0] 27)).alloc (.cells #[.string b] 9)
      have hsz2 := World.size_alloc wr (.cells #[.int .i64 4, .bool false, .slice none 0 0, .int .u64 0, .string b, .slice none 0 0] 27)
      have hlit : Sl ((wr.alloc (.cells #[.int .i64 4, .bool false, .slice none 0 0, .int .u64 0, .string b, .slice none 0 0] 27)).alloc (.cells #[.string b] 9)) (some ⟨wr.heap.size + 1, 0, none⟩) 1 [.string b] := by
        rw [← hsz2]
        exact Sl.of_blk (cs := #[.string b]) (Blk.new _ _ _) (by unfold maxLen; simp)
      have hbw3 : Kept W3 ((wr.alloc (.cells #[.int .i64 4, .bool false, .slice none 0 0, .int .u64 0, .string b, .slice none 0 0] 27)).alloc (.cells #[.string b] 9)) := (hbw.alloc hbw.size _).alloc (by rw [World.size_alloc]; have := hbw.size; omega) _
      have HOWN := Lib.hid hown2
      have HELS := Lib.hid hels
      have HLIT := Lib.hid hlit
      have HBW := Lib.hid hbw3
      have hzz := hbw.size
      clear hown hown2 hels hlit hbk hbw hbw3 hsz2
      go_wp2_with (at_builtin; refine wpList_append_sl rfl (.tmp 25) (.tmp 28) 28 rfl W3.heap.size 9 i0 (.string ByteArray.empty) 16 Tryz.underlying28 hi0 hz0 hz1 hz2 rfl _ 1 (strs ([a, b, c].take 1)) rfl HOWN.out _ 1 _ [.string b] rfl rfl HLIT.out (by intro u hu; rw [List.mem_singleton.1 hu]; rfl) (by unfold maxLen; omega) (by omega) (by simp only [World.size_alloc]; omega) ?_; intro v1 w1_ hown1 hg1)
      rw [← HELS.out] at hown1
      exact ⟨⟨2, 2, rfl, by omega, by go_num, hown1, Below.grown HBW.out hg1 HBW.out.size (fun q hq => (HOWN.out.lt _ hq).1)⟩, by simp [intOf]⟩
    · obtain rfl : z = 2 := by omega
      clear hzk hk
      have q0 : wr.cell? ⟨g, 12, none⟩ = some (.int .i64 4) := hbk.cell 12
      have q1 : wr.cell? ⟨g, 13, none⟩ = some (.bool false) := hbk.cell 13
      have q2 : wr.cell? ⟨g, 14, none⟩ = some (.slice none 0 0) := hbk.cell 14
      have q3 : wr.cell? ⟨g, 15, none⟩ = some (.int .u64 0) := hbk.cell 15
      have q4 : wr.cell? ⟨g, 16, none⟩ = some (.string c) := hbk.cell 16
      have q5 : wr.cell? ⟨g, 17, none⟩ = some (.slice none 0 0) := hbk.cell 17
      have hels : strs ([a, b, c].take 3) = strs ([a, b, c].take 2) ++ [.string c] := rfl
      have hown2 := (hown.alloc (.cells #[.int .i64 4, .bool false, .slice none 0 0, .int .u64 0, .string c, .slice none 0 0] 27)).alloc (.cells #[.string c] 9)
      have hsz2 := World.size_alloc wr (.cells #[.int .i64 4, .bool false, .slice none 0 0, .int .u64 0, .string c, .slice none 0 0] 27)
      have hlit : Sl ((wr.alloc (.cells #[.int .i64 4, .bool false, .slice none 0 0, .int .u64 0, .string c, .slice none 0 0] 27)).alloc (.cells #[.string c] 9)) (some ⟨wr.heap.size + 1, 0, none⟩) 1 [.string c] := by
        rw [← hsz2]
        exact Sl.of_blk (cs := #[.string c]) (Blk.new _ _ _) (by unfold maxLen; simp)
      have hbw3 : Kept W3 ((wr.alloc (.cells #[.int .i64 4, .bool false, .slice none 0 0, .int .u64 0, .string c, .slice none 0 0] 27)).alloc (.cells #[.string c] 9)) := (hbw.alloc hbw.size _).alloc (by rw [World.size_alloc]; have := hbw.size; omega) _
      have HOWN := Lib.hid hown2
      have HELS := Lib.hid hels
      have HLIT := Lib.hid hlit
      have HBW := Lib.hid hbw3
      have hzz := hbw.size
      clear hown hown2 hels hlit hbk hbw hbw3 hsz2
      go_wp2_with (at_builtin; refine wpList_append_sl rfl (.tmp 25) (.tmp 28) 28 rfl W3.heap.size 9 i0 (.string ByteArray.empty) 16 Tryz.underlying28 hi0 hz0 hz1 hz2 rfl _ 2 (strs ([a, b, c].take 2)) rfl HOWN.out _ 1 _ [.string c] rfl rfl HLIT.out (by intro u hu; rw [List.mem_singleton.1 hu]; rfl) (by unfold maxLen; omega) (by omega) (by simp only [World.size_alloc]; omega) ?_; intro v1 w1_ hown1 hg1)
      rw [← HELS.out] at hown1
      exact ⟨⟨3, 3, rfl, by omega, by go_num, hown1, Below.grown HBW.out hg1 HBW.out.size (fun q hq => (HOWN.out.lt _ hq).1)⟩, by simp [intOf]⟩
    · obtain rfl : z = 3 := by omega
      clear hzk hk
      have HOWN := Lib.hid hown
      have HV := Lib.hid (HB3.out.below hbw)
      have HKK := Lib.hid (HK3.out.trans hbw)
      have lz := hbw.size
      have lV3 := HB3.out.lt
      have hst := run_storeVar_row (P := Tryz.prog) wr w.heap.size 27 27 _ (kvv (some ⟨g, 0, none⟩) 3 3) HV.out info_V rfl (by simp [Value.oneCell', kvv])
      have hld := run_loadVar_row (P := Tryz.prog) wr w.heap.size 27 27 (kvv (some ⟨g, 0, none⟩) 3 3) (0, 0) _ HV.out Tryz.underlying27 rfl (by exact info_V)
      simp [go_sem, kvv_size] at hst hld
      clear hown hbw hbk
      go_wp2_with fail
      refine bodyPost_ret (results_cell_tmp_tmp rfl _ _ _ w.heap.size 27 (kvv (some ⟨g, 0, none⟩) 3 3) _ _ rfl (setRow_heap _ _ _ _ _ _ HV.out) Tryz.underlying27 (by exact info_V)) rfl ?_
      refine ⟨r, _, A2, cap, rfl, rfl, by simp [Value.oneCell', kvv], HP.out, ?_, below_setRow HKK.out (Nat.le_refl _) _⟩
      rw [HABC.out]
      exact Sl.far (g := w.heap.size) (Sl.of_own HOWN.out).1 (own_far HOWN.out (by omega)) (fun k hk hne => setRow_other _ _ _ _ hne)
end Go.Proofs.YtcamjefacbaniaaGreat
