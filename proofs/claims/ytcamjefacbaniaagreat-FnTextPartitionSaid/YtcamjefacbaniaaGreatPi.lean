/- The reference says nothing of an empty part; and two rows of texts alike -/
import Derived.Test.YtcamjefacbaniaaGreatPh
import Derived.Test.YtcamjefacbaniaaGreatIv
namespace Go.Proofs.YtcamjefacbaniaaGreat
open Go.ChangeShapes Go.WideShapes Go.ChangeAt Go.RowKit
set_option linter.unusedVariables false
set_option maxRecDepth 100000 in
set_option maxHeartbeats 2000000 in
theorem method_none (back : Bool) (T P : ByteArray) (h0 : P.size = 0) (ga ca : Nat) (w : World) (hg : Blk w ga 27 (tvv P)) :
    Calls Tryz.prog 11 #[.string T, .string (nmPart back), .slice (some ⟨ga, 0, none⟩) 1 ca] w (RetNone w) := by
  have HC := Lib.hid (around_no back T P h0)
  have hV0 := Blk.new w 27 #[.int .i64 0, .bool false, .slice none 0 0, .int .u64 0, .string ⟨#[]⟩, .slice none 0 0]
  have hk0 : Kept w (w.alloc (.cells #[.int .i64 0, .bool false, .slice none 0 0, .int .u64 0, .string ⟨#[]⟩, .slice none 0 0] 27)) := (Below.refl _ _).alloc (Nat.le_refl _) _
  have c0 : (w.alloc (.cells #[.int .i64 0, .bool false, .slice none 0 0, .int .u64 0, .string ⟨#[]⟩, .slice none 0 0] 27)).cell? ⟨ga, 0, none⟩ = some (.int .i64 4) := (hg.below hk0).cell 0
  have c4 : (w.alloc (.cells #[.int .i64 0, .bool false, .slice none 0 0, .int .u64 0, .string ⟨#[]⟩, .slice none 0 0] 27)).cell? ⟨ga, 4, none⟩ = some (.string P) := (hg.below hk0).cell 4
  have d0 : w.cell? ⟨ga, 0, none⟩ = some (.int .i64 4) := hg.cell 0
  have d4 : w.cell? ⟨ga, 4, none⟩ = some (.string P) := hg.cell 4
  have hl := hg.lt
  have HV0 := Lib.hid hV0
  have HK0 := Lib.hid hk0
  clear hV0 hk0 h0 hg
  have e1 : nmPart true = ⟨#[114, 112, 97, 114, 116, 105, 116, 105, 111, 110]⟩ := rfl
  have e2 : nmPart false = ⟨#[112, 97, 114, 116, 105, 116, 105, 111, 110]⟩ := rfl
  cases back
  · rw [e2] at HC ⊢
    clear e1 e2
    go_enter Tryz.func11, Tryz.ntmps11
    go_wp2_with fail
    clear c0 c4 d0 d4
    generalize w.alloc (.cells #[.int .i64 0, .bool false, .slice none 0 0, .int .u64 0, .string ⟨#[]⟩, .slice none 0 0] 27) = W0 at *
    refine (HC.out W0).mono ?_
    rintro e w2 ⟨rfl, hk2⟩
    have H := Lib.hid (HV0.out.below hk2)
    have HK := Lib.hid (HK0.out.trans hk2)
    have lV := HV0.out.lt
    have hst := run_storeVar_row (P := Tryz.prog) w2 w.heap.size 27 27 _ #[.int .i64 0, .bool false, .slice none 0 0, .int .u64 0, .string ⟨#[]⟩, .slice none 0 0] H.out info_V rfl (by simp [Value.oneCell'])
    simp [go_sem] at hst
    clear hk2
    go_wp2_with fail
    refine bodyPost_ret (results_cell_tmp rfl _ _ _ w.heap.size 27 #[.int .i64 0, .bool false, .slice none 0 0, .int .u64 0, .string ⟨#[]⟩, .slice none 0 0] _ _ rfl (setRow_heap _ _ _ _ _ _ H.out) Tryz.underlying27 (by exact info_V)) rfl ?_
    exact ⟨rfl, below_setRow HK.out (Nat.le_refl _) _⟩
  · rw [e1] at HC ⊢
    clear e1 e2
    go_enter Tryz.func11, Tryz.ntmps11
    go_wp2_with fail
    clear c0 c4 d0 d4
    generalize w.alloc (.cells #[.int .i64 0, .bool false, .slice none 0 0, .int .u64 0, .string ⟨#[]⟩, .slice none 0 0] 27) = W0 at *
    refine (HC.out W0).mono ?_
    rintro e w2 ⟨rfl, hk2⟩
    have H := Lib.hid (HV0.out.below hk2)
    have HK := Lib.hid (HK0.out.trans hk2)
    have lV := HV0.out.lt
    have hst := run_storeVar_row (P := Tryz.prog) w2 w.heap.size 27 27 _ #[.int .i64 0, .bool false, .slice none 0 0, .int .u64 0, .string ⟨#[]⟩, .slice none 0 0] H.out info_V rfl (by simp [Value.oneCell'])
    simp [go_sem] at hst
    clear hk2
    go_wp2_with fail
    refine bodyPost_ret (results_cell_tmp rfl _ _ _ w.heap.size 27 #[.int .i64 0, .bool false, .slice none 0 0, .int .u64 0, .string ⟨#[]⟩, .slice none 0 0] _ _ rfl (setRow_heap _ _ _ _ _ _ H.out) Tryz.underlying27 (by exact info_V)) rfl ?_
    exact ⟨rfl, below_setRow HK.out (Nat.le_refl _) _⟩
set_option maxRecDepth 100000 in
set_option maxHeartbeats 2000000 in
theorem asked_none (back : Bool) (T P : ByteArray) (h0 : P.size = 0) (ga ca : Nat) (w : World) (hg : Blk w ga 27 (tvv P)) :
    Calls Tryz.prog 6 #[.string T, .string (nmPart back), .slice (some ⟨ga, 0, none⟩) 1 ca] w fun e w' => e = .returned (.tuple #[.agg #[.int .i64 0, .bool false, .slice none 0 0, .int .u64 0, .string ⟨#[]⟩, .slice none 0 0], .slice none 0 0, .bool false]) ∧ Kept w w' := by
  have hV0 := Blk.new w 27 #[.int .i64 0, .bool false, .slice none 0 0, .int .u64 0, .string ⟨#[]⟩, .slice none 0 0]
  have hk0 : Kept w (w.alloc (.cells #[.int .i64 0, .bool false, .slice none 0 0, .int .u64 0, .string ⟨#[]⟩, .slice none 0 0] 27)) := (Below.refl _ _).alloc (Nat.le_refl _) _
  have HC := Lib.hid (method_none back T P h0 ga ca _ (hg.below hk0))
  have HV0 := Lib.hid hV0
  have HK0 := Lib.hid hk0
  clear hV0 hk0 h0 hg
  go_enter Tryz.func6, Tryz.ntmps6
  go_wp2_with fail
  generalize w.alloc (.cells #[.int .i64 0, .bool false, .slice none 0 0, .int .u64 0, .string ⟨#[]⟩, .slice none 0 0] 27) = W0 at *
  refine (HC.out).mono ?_
  rintro e w2 ⟨rfl, hk2⟩
  have H := Lib.hid (HV0.out.below hk2)
  have HK := Lib.hid (HK0.out.trans hk2)
  have hst := run_storeVar_row (P := Tryz.prog) w2 w.heap.size 27 27 _ #[.int .i64 0, .bool false, .slice none 0 0, .int .u64 0, .string ⟨#[]⟩, .slice none 0 0] H.out info_V rfl (by simp [Value.oneCell'])
  simp [go_sem] at hst
  have hb3 : Blk (w2.setRow w.heap.size #[.int .i64 0, .bool false, .slice none 0 0, .int .u64 0, .string ⟨#[]⟩, .slice none 0 0]) w.heap.size 27 #[.int .i64 0, .bool false, .slice none 0 0, .int .u64 0, .string ⟨#[]⟩, .slice none 0 0] := setRow_heap _ _ _ _ _ _ H.out
  have hk3 : Kept w (w2.setRow w.heap.size #[.int .i64 0, .bool false, .slice none 0 0, .int .u64 0, .string ⟨#[]⟩, .slice none 0 0]) := below_setRow HK.out (Nat.le_refl _) _
  have c5 : (w2.setRow w.heap.size #[.int .i64 0, .bool false, .slice none 0 0, .int .u64 0, .string ⟨#[]⟩, .slice none 0 0]).cell? ⟨w.heap.size, 5, none⟩ = some (.slice none 0 0) := hb3.cell 5
  have HB3 := Lib.hid hb3
  have HK3 := Lib.hid hk3
  clear hb3 hk3 hk2
  go_wp2_with fail
  generalize w2.setRow w.heap.size #[.int .i64 0, .bool false, .slice none 0 0, .int .u64 0, .string ⟨#[]⟩, .slice none 0 0] = w3 at *
  clear hst c5
  have hld := run_loadVar_row (P := Tryz.prog) w3 w.heap.size 27 27 #[.int .i64 0, .bool false, .slice none 0 0, .int .u64 0, .string ⟨#[]⟩, .slice none 0 0] (0, 0) _ HB3.out Tryz.underlying27 rfl (by exact info_V)
  have hst := run_storeVar_row (P := Tryz.prog) w3 w.heap.size 27 27 _ #[.int .i64 0, .bool false, .slice none 0 0, .int .u64 0, .string ⟨#[]⟩, .slice none 0 0] HB3.out info_V rfl (by simp [Value.oneCell'])
  simp [go_sem] at hst hld
  go_rounds 1
  refine bodyPost_ret (results_cell_tmp_tmp rfl _ _ _ w.heap.size 27 #[.int .i64 0, .bool false, .slice none 0 0, .int .u64 0, .string ⟨#[]⟩, .slice none 0 0] _ _ rfl (setRow_heap _ _ _ _ _ _ HB3.out) Tryz.underlying27 (by exact info_V)) rfl ?_
  exact ⟨rfl, below_setRow HK3.out (Nat.le_refl _) _⟩
theorem Sl.three {w : World} {A : Option Addr} {c : Nat} {l : List ByteArray} (h : Sl w A c (strs l)) (hl : l.length = 3) : ∃ b off, A = some ⟨b, off, none⟩ ∧ 3 ≤ c ∧ c ≤ maxLen ∧ ∀ (k : Nat) (hk : k < l.length), w.cell? ⟨b, off + k, none⟩ = some (.string (l[k]'hk)) := by
  obtain ⟨b, off, e, hc⟩ := h.at_ (fun e => by
    have := congrArg List.length e
    simp [strs, hl] at this)
  have := h.cap
  exact ⟨b, off, e, by simpa [strs, hl] using this, h.max, fun k hk => hc k _ (strs_get l k hk)⟩
set_option maxRecDepth 100000 in
theorem sameTexts_any (A B : Option Addr) (c d : Nat) (l : List ByteArray) (hl : l.length = 3) (w : World) (h1 : Sl w A c (strs l)) (h2 : Sl w B d (strs l)) :
    Calls Tryz.prog 9 #[.slice A 3 c, .slice B 3 d] w fun e w' => e = .returned (.bool true) ∧ w = w' := by
  obtain ⟨g1, o1, rfl, _, _, c1⟩ := h1.three hl
  obtain ⟨g2, o2, rfl, _, _, c2⟩ := h2.three hl
  have C1 := Lib.hid c1
  have C2 := Lib.hid c2
  clear c1 c2 h1 h2
  go_enter Tryz.func9, Tryz.ntmps9
  go_wp2_with fail
  go_loop [14] (fun i => ∃ k : Nat, i = .int .i64 k ∧ k ≤ 3) (fun i => 3 - (intOf i).toNat)
  case atStart => exact ⟨0, rfl, Nat.zero_le _⟩
  case round =>
    obtain ⟨k, rfl, hk⟩ := hrel
    by_cases hlt : k < 3
    · have e1 := C1.out k (by omega)
      have e2 := C2.out k (by omega)
      go_wp2_with fail
      go_round
      case rel => exact ⟨k + 1, by go_num, by omega⟩
      case measure => simp [intOf]; omega
    · go_wp2_with fail
      go_ret
      exact ⟨rfl, rfl⟩
end Go.Proofs.YtcamjefacbaniaaGreat
