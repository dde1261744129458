/- The reference's method, asked. -/
import Derived.Test.YtcamjefacbaniaaGreatPd
namespace Go.Proofs.YtcamjefacbaniaaGreat
open Go.ChangeShapes Go.WideShapes Go.ChangeAt Go.RowKit
set_option linter.unusedVariables false
theorem K3.setRow {w : World} {g k : Nat} {l : List ByteArray} (h : K3 w g l) (hk : k < g) (cs : Array Value) : K3 (w.setRow k cs) g l := by
  obtain ⟨a, b, c, e, hb⟩ := h
  exact ⟨a, b, c, e, (setRow_other _ _ _ _ (by omega)).trans hb⟩
theorem K3.below {w w' : World} {g : Nat} {l : List ByteArray} (h : K3 w g l) (hk : Kept w w') : K3 w' g l := by
  obtain ⟨a, b, c, e, hb⟩ := h
  exact ⟨a, b, c, e, hb.below hk⟩
theorem around_any (back : Bool) (T P : ByteArray) (hT : T.size ≤ 60) (hP : P.size ≤ 60) (h0 : 0 < P.size) (w : World) :
    Calls Tryz.prog 24 #[.string T, .string (nmPart back), .string P] w (RetAround back T P w) := by
  cases back
  · exact around_false T P hT hP h0 w
  · exact around_true T P hT hP h0 w
/-- nothing is said of an empty part -/
def RetNone (w : World) (e : Ending) (w' : World) : Prop := e = .returned (.tuple #[.agg #[.int .i64 0, .bool false, .slice none 0 0, .int .u64 0, .string ⟨#[]⟩, .slice none 0 0], .bool false]) ∧ Kept w w'
set_option maxRecDepth 100000 in
set_option maxHeartbeats 1000000 in
theorem around_no (back : Bool) (T P : ByteArray) (h0 : P.size = 0) (w : World) :
    Calls Tryz.prog 24 #[.string T, .string (nmPart back), .string P] w (RetNone w) := by
  have hP0 : ((P.size : Int) == 0) = true := by rw [beq_iff_eq]; omega
  have hb := Blk.new w 27 #[.int .i64 0, .bool false, .slice none 0 0, .int .u64 0, .string ⟨#[]⟩, .slice none 0 0]
  have ho : Kept w (w.alloc (.cells #[.int .i64 0, .bool false, .slice none 0 0, .int .u64 0, .string ⟨#[]⟩, .slice none 0 0] 27)) := (Below.refl _ _).alloc (Nat.le_refl _) _
  have HB := Lib.hid hb
  have HO := Lib.hid ho
  have e1 : nmPart true = ⟨#[114, 112, 97, 114, 116, 105, 116, 105, 111, 110]⟩ := rfl
  have e2 : nmPart false = ⟨#[112, 97, 114, 116, 105, 116, 105, 111, 110]⟩ := rfl
  clear hb ho h0
  cases back
  · rw [e2]
    clear e1 e2
    go_enter Tryz.func24, Tryz.ntmps24
    go_wp2_with fail
    refine bodyPost_ret (results_cell_tmp rfl _ _ _ w.heap.size 27 _ _ _ rfl HB.out Tryz.underlying27 (by exact info_V)) rfl ?_
    exact ⟨rfl, HO.out⟩
  · rw [e1]
    clear e1 e2
    go_enter Tryz.func24, Tryz.ntmps24
    go_wp2_with fail
    refine bodyPost_ret (results_cell_tmp rfl _ _ _ w.heap.size 27 _ _ _ rfl HB.out Tryz.underlying27 (by exact info_V)) rfl ?_
    exact ⟨rfl, HO.out⟩
set_option maxRecDepth 100000 in
set_option maxHeartbeats 2000000 in
theorem method_part (back : Bool) (T P : ByteArray) (hT : T.size ≤ 60) (hP : P.size ≤ 60) (h0 : 0 < P.size) (ga ca : Nat) (w : World) (hg : Blk w ga 27 (tvv P)) :
    Calls Tryz.prog 11 #[.string T, .string (nmPart back), .slice (some ⟨ga, 0, none⟩) 1 ca] w (RetAround back T P w) := by
  have HC := Lib.hid (around_any back T P hT hP h0)
  have hV0 := Blk.new w 27 #[.int .i64 0, .bool false, .slice none 0 0, .int .u64 0, .string ⟨#[]⟩, .slice none 0 0]
  have hk0 : Kept w (w.alloc (.cells #[.int .i64 0, .bool false, .slice none 0 0, .int .u64 0, .string ⟨#[]⟩, .slice none 0 0] 27)) := (Below.refl _ _).alloc (Nat.le_refl _) _
  have c0 : (w.alloc (.cells #[.int .i64 0, .bool false, .slice none 0 0, .int .u64 0, .string ⟨#[]⟩, .slice none 0 0] 27)).cell? ⟨ga, 0, none⟩ = some (.int .i64 4) := (hg.below hk0).cell 0
  have c4 : (w.alloc (.cells #[.int .i64 0, .bool false, .slice none 0 0, .int .u64 0, .string ⟨#[]⟩, .slice none 0 0] 27)).cell? ⟨ga, 4, none⟩ = some (.string P) := (hg.below hk0).cell 4
  have d0 : w.cell? ⟨ga, 0, none⟩ = some (.int .i64 4) := hg.cell 0
  have d4 : w.cell? ⟨ga, 4, none⟩ = some (.string P) := hg.cell 4
  have hl := hg.lt
  have HV0 := Lib.hid hV0
  have HK0 := Lib.hid hk0
  clear hV0 hk0 hT hP h0 hg
  have e1 : nmPart true = ⟨#[114, 112, 97, 114, 116, 105, 116, 105, 111, 110]⟩ := rfl
  have e2 : nmPart false = ⟨#[112, 97, 114, 116, 105, 116, 105, 111, 110]⟩ := rfl
  cases back
  · rw [e2] at HC ⊢
    clear e1 e2
    go_enter Tryz.func11, Tryz.ntmps11
    go_wp2_with fail
    clear c0 c4 d0 d4
    generalize w.alloc (.cells #[.int .i64 0, .bool false, .slice none 0 0, .int .u64 0, .string ⟨#[]⟩, .slice none 0 0] 27) = W0 at *
    refine (HC.out W0).mono ?_
    rintro e w2 ⟨r, g, rfl, hp, h3, hg3, hk2⟩
    have H := Lib.hid (HV0.out.below hk2)
    have HP := Lib.hid hp
    have H3 := Lib.hid h3
    have HG := Lib.hid hg3
    have HK := Lib.hid (HK0.out.trans hk2)
    have lV := HV0.out.lt
    have hst := run_storeVar_row (P := Tryz.prog) w2 w.heap.size 27 27 _ (kvv (some ⟨g, 0, none⟩) 3 3) H.out info_V rfl (by simp [Value.oneCell', kvv])
    simp [go_sem, kvv_size] at hst
    clear hp h3 hg3 hk2
    go_wp2_with fail
    refine bodyPost_ret (results_cell_tmp rfl _ _ _ w.heap.size 27 (kvv (some ⟨g, 0, none⟩) 3 3) _ _ rfl (setRow_heap _ _ _ _ _ _ H.out) Tryz.underlying27 (by exact info_V)) rfl ?_
    exact ⟨r, g, rfl, HP.out, H3.out.setRow (by have := HG.out; omega) _, by have := HG.out; omega, below_setRow HK.out (Nat.le_refl _) _⟩
  · rw [e1] at HC ⊢
    clear e1 e2
    go_enter Tryz.func11, Tryz.ntmps11
    go_wp2_with fail
    clear c0 c4 d0 d4
    generalize w.alloc (.cells #[.int .i64 0, .bool false, .slice none 0 0, .int .u64 0, .string ⟨#[]⟩, .slice none 0 0] 27) = W0 at *
    refine (HC.out W0).mono ?_
    rintro e w2 ⟨r, g, rfl, hp, h3, hg3, hk2⟩
    have H := Lib.hid (HV0.out.below hk2)
    have HP := Lib.hid hp
    have H3 := Lib.hid h3
    have HG := Lib.hid hg3
    have HK := Lib.hid (HK0.out.trans hk2)
    have lV := HV0.out.lt
    have hst := run_storeVar_row (P := Tryz.prog) w2 w.heap.size 27 27 _ (kvv (some ⟨g, 0, none⟩) 3 3) H.out info_V rfl (by simp [Value.oneCell', kvv])
    simp [go_sem, kvv_size] at hst
    clear hp h3 hg3 hk2
    go_wp2_with fail
    refine bodyPost_ret (results_cell_tmp rfl _ _ _ w.heap.size 27 (kvv (some ⟨g, 0, none⟩) 3 3) _ _ rfl (setRow_heap _ _ _ _ _ _ H.out) Tryz.underlying27 (by exact info_V)) rfl ?_
    exact ⟨r, g, rfl, HP.out, H3.out.setRow (by have := HG.out; omega) _, by have := HG.out; omega, below_setRow HK.out (Nat.le_refl _) _⟩
end Go.Proofs.YtcamjefacbaniaaGreat
