/- The reference asked for the lines -/
import Derived.Test.YtcamjefacbaniaaGreatDoorLg
namespace Go.Proofs.YtcamjefacbaniaaGreatDoor
open Go.ChangeShapes Go.WideShapes Go.ChangeAt Go.RowKit
set_option linter.unusedVariables false
set_option maxRecDepth 100000 in
set_option maxHeartbeats 2000000 in
theorem method_lines (keep : Bool) (T : ByteArray) (hT : T.size ≤ 60) (ga ca : Nat) (w : World) (hg : Blk w ga 27 (bvv keep)) :
    Calls Tryz.prog 9 #[.string T, .string ⟨#[115, 112, 108, 105, 116, 108, 105, 110, 101, 115]⟩, .slice (some ⟨ga, 0, none⟩) 1 ca] w (RetRef keep T w) := by
  have hV0 := Blk.new w 27 #[.int .i64 0, .bool false, .slice none 0 0, .int .u64 0, .string ⟨#[]⟩, .slice none 0 0]
  have hk0 : Kept w (w.alloc (.cells #[.int .i64 0, .bool false, .slice none 0 0, .int .u64 0, .string ⟨#[]⟩, .slice none 0 0] 27)) := (Below.refl _ _).alloc (Nat.le_refl _) _
  have hsz := World.size_alloc w (.cells #[.int .i64 0, .bool false, .slice none 0 0, .int .u64 0, .string ⟨#[]⟩, .slice none 0 0] 27)
  have HC := Lib.hid (refLines_any keep T hT ga ca _ (hg.below hk0))
  have HV0 := Lib.hid hV0
  have HK0 := Lib.hid hk0
  have HSZ := Lib.hid hsz
  clear hV0 hk0 hT hg hsz
  go_enter Tryz.func9, Tryz.ntmps9
  go_wp2_with fail
  generalize w.alloc (.cells #[.int .i64 0, .bool false, .slice none 0 0, .int .u64 0, .string ⟨#[]⟩, .slice none 0 0] 27) = W0 at *
  refine (HC.out).mono ?_
  rintro e w2 ⟨B, d, rfl, ho, hk2⟩
  have hV := HV0.out.below hk2
  have HK := Lib.hid (HK0.out.trans hk2)
  have HO := Lib.hid ho
  have hst := run_storeVar_row (P := Tryz.prog) w2 w.heap.size 27 27 _ (lvv B (lins keep T).length d) hV info_V rfl (by simp [Value.oneCell', lvv])
  simp [go_sem, lvv_size] at hst
  have HV := Lib.hid hV
  clear ho hk2 hV
  go_wp2_with fail
  refine bodyPost_ret (results_cell_tmp rfl _ _ _ w.heap.size 27 (lvv B (lins keep T).length d) _ _ rfl (setRow_heap _ _ _ _ _ _ HV.out) Tryz.underlying27 (by exact info_V)) rfl ?_
  exact ⟨B, d, rfl, own_setRow HO.out (by rw [HSZ.out]; omega) (by rw [HSZ.out]; omega), below_setRow HK.out (Nat.le_refl _) _⟩
theorem tvs_get (l : List ByteArray) : ∀ (k : Nat) (h : k < l.length) (j : Nat), j < 6 → (tvs l)[k * 6 + j]? = (tvv (l[k]'h))[j]? := by
  induction l with
  | nil => intro k h; simp at h
  | cons s l ih =>
    intro k h j hj
    have e : tvs (s :: l) = (tvv s).toList ++ tvs l := by simp only [tvs, List.flatMap_cons]
    have e6 : (tvv s).toList.length = 6 := rfl
    rw [e]
    cases k with
    | zero =>
      rw [List.getElem?_append_left (by rw [e6]; omega)]
      simp
    | succ k =>
      rw [List.getElem?_append_right (by rw [e6]; omega), e6]
      have : (k + 1) * 6 + j - 6 = k * 6 + j := by omega
      rw [this]
      exact ih k (by simpa using h) j hj
theorem kid_cells {w : World} {b0 n d : Nat} {B : Option Addr} {l : List ByteArray} (h : w.ownsRow b0 27 6 (.slice B n d) n (tvs l)) (k : Nat) (hk : k < l.length) : ∃ g, B = some ⟨g, 0, none⟩ ∧ g < w.heap.size ∧ ∀ j, j < 6 → w.cell? ⟨g, k * 6 + j, none⟩ = (tvv (l[k]'hk))[j]? := by
  have hln : n * 6 = l.length * 6 := by have := h.1; rw [tvs_len] at this; omega
  rcases h.2 with ⟨h1, h2⟩ | ⟨g, cap, cur, h1, h2, h3, h4, h5, h6, h7⟩
  · omega
  · injection h1 with e1 e2 e3
    subst e1
    refine ⟨g, rfl, (Array.getElem?_eq_some_iff.1 h3).1, fun j hj => ?_⟩
    rw [← tvs_get l k hk j hj, ← h7]
    simp only [World.cell?, h3]
    have hkn : k * 6 + j < n * 6 := by omega
    rw [List.getElem?_take, if_pos hkn]
    show cur[k * 6 + j]? = _
    simp
/-- the reference asked: the lines' texts -/
def RetAsk (keep : Bool) (T : ByteArray) (w : World) (v : Value) (w' : World) : Prop := ∃ B d A c, v = .tuple #[.agg #[.int .i64 6, .bool false, .slice none 0 0, .int .u64 0, .string ⟨#[]⟩, .slice B (lins keep T).length d], .slice A (lins keep T).length c, .bool true] ∧ Sl w' A c (strs (lins keep T)) ∧ Kept w w'
set_option maxRecDepth 100000 in
set_option maxHeartbeats 4000000 in
theorem asked_lines (keep : Bool) (T : ByteArray) (hT : T.size ≤ 60) (ga ca : Nat) (w : World) (hg : Blk w ga 27 (bvv keep)) :
    Calls Tryz.prog 5 #[.string T, .string ⟨#[115, 112, 108, 105, 116, 108, 105, 110, 101, 115]⟩, .slice (some ⟨ga, 0, none⟩) 1 ca] w fun e w' => ∃ v, e = .returned v ∧ RetAsk keep T w v w' := by
  obtain ⟨i0, hi0, hz0, hz1, hz2⟩ := info_parts infoStr2
  have hV0 := Blk.new w 27 #[.int .i64 0, .bool false, .slice none 0 0, .int .u64 0, .string ⟨#[]⟩, .slice none 0 0]
  have hk0 : Kept w (w.alloc (.cells #[.int .i64 0, .bool false, .slice none 0 0, .int .u64 0, .string ⟨#[]⟩, .slice none 0 0] 27)) := (Below.refl _ _).alloc (Nat.le_refl _) _
  have hsz := World.size_alloc w (.cells #[.int .i64 0, .bool false, .slice none 0 0, .int .u64 0, .string ⟨#[]⟩, .slice none 0 0] 27)
  have HC := Lib.hid (method_lines keep T hT ga ca _ (hg.below hk0))
  have hll := lins_len keep T
  have hl61 : (lins keep T).length ≤ 61 := by omega
  have HV0 := Lib.hid hV0
  have HK0 := Lib.hid hk0
  have HSZ := Lib.hid hsz
  clear hV0 hk0 hT hg hsz hll
  go_enter Tryz.func5, Tryz.ntmps5
  go_wp2_with fail
  generalize w.alloc (.cells #[.int .i64 0, .bool false, .slice none 0 0, .int .u64 0, .string ⟨#[]⟩, .slice none 0 0] 27) = W0 at *
  refine (HC.out).mono ?_
  rintro e w2 ⟨B, d, rfl, ho, hk2⟩
  have hV := HV0.out.below hk2
  have HK := Lib.hid (HK0.out.trans hk2)
  have hst := run_storeVar_row (P := Tryz.prog) w2 w.heap.size 27 27 _ (lvv B (lins keep T).length d) hV info_V rfl (by simp [Value.oneCell', lvv])
  simp [go_sem, lvv_size] at hst
  have hb3 : Blk (w2.setRow w.heap.size (lvv B (lins keep T).length d)) w.heap.size 27 (lvv B (lins keep T).length d) := setRow_heap _ _ _ _ _ _ hV
  have hk3 : Kept w (w2.setRow w.heap.size (lvv B (lins keep T).length d)) := below_setRow HK.out (Nat.le_refl _) _
  have ho3 : (w2.setRow w.heap.size (lvv B (lins keep T).length d)).ownsRow w.heap.size 27 6 (.slice B (lins keep T).length d) (lins keep T).length (tvs (lins keep T)) := by
    have hW0 : W0.heap.size = w.heap.size + 1 := HSZ.out
    exact own_setRow (B := W0.heap.size) ho (by omega) (by omega)
  have c5 : (w2.setRow w.heap.size (lvv B (lins keep T).length d)).cell? ⟨w.heap.size, 5, none⟩ = some (.slice B (lins keep T).length d) := hb3.cell 5
  have HB3 := Lib.hid hb3
  have HK3 := Lib.hid hk3
  have HO3 := Lib.hid ho3
  clear hb3 hk3 ho3 ho hk2 hV HK
  go_wp2_with fail
  generalize w2.setRow w.heap.size (lvv B (lins keep T).length d) = W3 at *
  clear hst c5
  go_loopw [7, 21] (fun lv iv wr => ∃ k : Nat, iv = .int .i64 k ∧ k ≤ (lins keep T).length ∧ wr.ownsRow W3.heap.size 9 1 lv k (strs ((lins keep T).take k)) ∧ Hid (Kept W3 wr)) (fun _ iv _ => (lins keep T).length - (intOf iv).toNat)
  case atStart => exact ⟨0, rfl, Nat.zero_le _, by simpa [strs] using World.ownsRow_nil _ _ _ _, Lib.hid (Below.refl _ _)⟩
  case round =>
    obtain ⟨k, rfl, hk, hown, HKW⟩ := hrel
    obtain ⟨A2, cap, rfl⟩ := own_slice hown
    have hbs := HKW.out.size
    by_cases hlt : k < (lins keep T).length
    · have hlt2 : k < (lins keep T).length := by omega
      obtain ⟨g, hBe, hgl, hcs⟩ := kid_cells HO3.out k hlt2
      subst hBe
      have hk3 := HKW.out
      have q0 : wr.cell? ⟨g, k * 6, none⟩ = some (.int .i64 4) := (hk3.cell (p := ⟨g, k * 6, none⟩) hgl).trans (hcs 0 (by omega))
      have q1 : wr.cell? ⟨g, k * 6 + 1, none⟩ = some (.bool false) := (hk3.cell (p := ⟨g, k * 6 + 1, none⟩) hgl).trans (hcs 1 (by omega))
      have q2 : wr.cell? ⟨g, k * 6 + 2, none⟩ = some (.slice none 0 0) := (hk3.cell (p := ⟨g, k * 6 + 2, none⟩) hgl).trans (hcs 2 (by omega))
      have q3 : wr.cell? ⟨g, k * 6 + 3, none⟩ = some (.int .u64 0) := (hk3.cell (p := ⟨g, k * 6 + 3, none⟩) hgl).trans (hcs 3 (by omega))
      have q4 : wr.cell? ⟨g, k * 6 + 4, none⟩ = some (.string ((lins keep T)[k]'hlt2)) := (hk3.cell (p := ⟨g, k * 6 + 4, none⟩) hgl).trans (hcs 4 (by omega))
      have q5 : wr.cell? ⟨g, k * 6 + 5, none⟩ = some (.slice none 0 0) := (hk3.cell (p := ⟨g, k * 6 + 5, none⟩) hgl).trans (hcs 5 (by omega))
      have hels := strs_snoc (lins keep T) k hlt2
      clear hcs hk3
      generalize (lins keep T)[k]'hlt2 = sx at *
      have hown2 := (hown.alloc (.cells #[.int .i64 4, .bool false, .slice none 0 0, .int .u64 0, .string sx, .slice none 0 0] 27)).alloc (.cells #[.string sx] 9)
      have hsz2 := World.size_alloc wr (.cells #[.int .i64 4, .bool false, .slice none 0 0, .int .u64 0, .string sx, .slice none 0 0] 27)
      have hlit : Sl ((wr.alloc (.cells #[.int .i64 4, .bool false, .slice none 0 0, .int .u64 0, .string sx, .slice none 0 0] 27)).alloc (.cells #[.string sx] 9)) (some ⟨wr.heap.size + 1, 0, none⟩) 1 [.string sx] := by
        rw [← hsz2]
        exact Sl.of_blk (cs := #[.string sx]) (Blk.new _ _ _) (by unfold maxLen; simp)
      have hbw3 : Kept W3 ((wr.alloc (.cells #[.int .i64 4, .bool false, .slice none 0 0, .int .u64 0, .string sx, .slice none 0 0] 27)).alloc (.cells #[.string sx] 9)) := (HKW.out.alloc HKW.out.size _).alloc (by rw [World.size_alloc]; omega) _
      have HOWN := Lib.hid hown2
      have HELS := Lib.hid hels
      have HLIT := Lib.hid hlit
      have HBW := Lib.hid hbw3
      clear hown hown2 hels hlit hbw3 hsz2
      go_wp2_with (at_builtin; refine wpList_append_sl rfl (.tmp 25) (.tmp 28) 28 rfl W3.heap.size 9 i0 (.string ByteArray.empty) 16 Tryz.underlying28 hi0 hz0 hz1 hz2 rfl _ k (strs ((lins keep T).take k)) rfl HOWN.out _ 1 _ [.string sx] rfl rfl HLIT.out (by intro u hu; rw [List.mem_singleton.1 hu]; rfl) (by unfold maxLen; omega) (by omega) (by simp only [World.size_alloc]; omega) ?_; intro v1 w1_ hown1 hg1)
      rw [← HELS.out] at hown1
      exact ⟨⟨k + 1, by go_num, by omega, hown1, Lib.hid (Below.grown HBW.out hg1 HBW.out.size (fun q hq => (HOWN.out.lt _ hq).1))⟩, by simp [intOf]; omega⟩
    · have hkn : (lins keep T).length = k := by omega
      subst hkn
      rw [List.take_of_length_le (by omega)] at hown
      have HOWN := Lib.hid hown
      have HV := Lib.hid (HB3.out.below HKW.out)
      have HKK := Lib.hid (HK3.out.trans HKW.out)
      have lV3 := HB3.out.lt
      have hst := run_storeVar_row (P := Tryz.prog) wr w.heap.size 27 27 _ (lvv B (lins keep T).length d) HV.out info_V rfl (by simp [Value.oneCell', lvv])
      have hld := run_loadVar_row (P := Tryz.prog) wr w.heap.size 27 27 (lvv B (lins keep T).length d) (0, 0) _ HV.out Tryz.underlying27 rfl (by exact info_V)
      simp [go_sem, lvv_size] at hst hld
      clear hown
      go_wp2_with fail
      refine bodyPost_ret (results_cell_tmp_tmp rfl _ _ _ w.heap.size 27 (lvv B (lins keep T).length d) _ _ rfl (setRow_heap _ _ _ _ _ _ HV.out) Tryz.underlying27 (by exact info_V)) rfl ?_
      refine ⟨_, rfl, _, _, A2, cap, rfl, ?_, below_setRow HKK.out (Nat.le_refl _) _⟩
      exact Sl.far (g := w.heap.size) (Sl.of_own HOWN.out).1 (own_far HOWN.out (by omega)) (fun k hk hne => setRow_other _ _ _ _ hne)
end Go.Proofs.YtcamjefacbaniaaGreatDoor
