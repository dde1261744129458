/- The law of isspace, walked. -/
import Derived.Test.YtcamjefacbaniaaGreatTb
namespace Go.Proofs.YtcamjefacbaniaaGreat
open Go.ChangeShapes Go.WideShapes Go.ChangeAt Go.RowKit
set_option linter.unusedVariables false
theorem results_cell_tmp {fn : Func} {p q : Tmp} {ty : TypeId} (h : fn.results = #[.cell p ty, .tmp q]) (P : Program) (tmps : Array Value) (w : World) (g : Nat) (t : TypeId) (cs : Array Value) (fr : Nat × Nat) (d : Array Field)
    (hp : tmps.getD p undef = .pointer (some ⟨g, 0, none⟩)) (hg : w.heap[g]? = some (.cells cs t fr))
    (hu : P.underlying ty = some (.struct d)) (hi : (P.info? ty).map (·.size) = some cs.size) :
    (results fn tmps).run P w = .ok (.tuple #[.agg cs, tmps.getD q undef]) w := by
  have e : tmps[p]?.getD undef = .pointer (some ⟨g, 0, none⟩) := by simpa using hp
  simp [results, h, e, asAddr, run_loadVar_row w g t ty cs fr _ hg hu rfl hi]
theorem results_cell_tmp_tmp {fn : Func} {p q r : Tmp} {ty : TypeId} (h : fn.results = #[.cell p ty, .tmp q, .tmp r]) (P : Program) (tmps : Array Value) (w : World) (g : Nat) (t : TypeId) (cs : Array Value) (fr : Nat × Nat) (d : Array Field)
    (hp : tmps.getD p undef = .pointer (some ⟨g, 0, none⟩)) (hg : w.heap[g]? = some (.cells cs t fr))
    (hu : P.underlying ty = some (.struct d)) (hi : (P.info? ty).map (·.size) = some cs.size) :
    (results fn tmps).run P w = .ok (.tuple #[.agg cs, tmps.getD q undef, tmps.getD r undef]) w := by
  have e : tmps[p]?.getD undef = .pointer (some ⟨g, 0, none⟩) := by simpa using hp
  simp [results, h, e, asAddr, run_loadVar_row w g t ty cs fr _ hg hu rfl hi]
/-- what the law asks of the reference: a truth -/
def RetTruth (b : Bool) (w : World) (e : Ending) (w' : World) : Prop := e = .returned (.tuple #[.agg (bvv b), .bool true]) ∧ Kept w w'
set_option maxRecDepth 100000 in
set_option maxHeartbeats 1000000 in
theorem method_space (T : ByteArray) (hT : T.size ≤ 60) (w : World) :
    Calls Tryz.prog 11 #[.string T, .string nmSpace, .slice none 0 0] w (RetTruth (spc T) w) := by
  have HC := Lib.hid (cases_any T hT)
  clear hT
  generalize spc T = b at *
  have hV0 := Blk.new w 27 #[.int .i64 0, .bool false, .slice none 0 0, .int .u64 0, .string ⟨#[]⟩, .slice none 0 0]
  have hk0 : Kept w (w.alloc (.cells #[.int .i64 0, .bool false, .slice none 0 0, .int .u64 0, .string ⟨#[]⟩, .slice none 0 0] 27)) := (Below.refl _ _).alloc (Nat.le_refl _) _
  have HV0 := Lib.hid hV0
  have HK0 := Lib.hid hk0
  clear hV0 hk0
  go_enter Tryz.func11, Tryz.ntmps11
  go_wp2_with fail
  generalize w.alloc (.cells #[.int .i64 0, .bool false, .slice none 0 0, .int .u64 0, .string ⟨#[]⟩, .slice none 0 0] 27) = W0 at *
  refine (HC.out W0).mono ?_
  rintro e w2 ⟨rfl, hk2⟩
  have H := Lib.hid (HV0.out.below hk2)
  have HK := Lib.hid (HK0.out.trans hk2)
  have hst := run_storeVar_row (P := Tryz.prog) w2 w.heap.size 27 27 _ (bvv b) H.out info_V rfl (by simp [Value.oneCell', bvv])
  simp [go_sem, bvv_size] at hst
  go_wp2_with fail
  refine bodyPost_ret (results_cell_tmp rfl _ _ _ w.heap.size 27 (bvv b) _ _ rfl (setRow_heap _ _ _ _ _ _ H.out) Tryz.underlying27 (by exact info_V)) rfl ?_
  exact ⟨rfl, below_setRow HK.out (Nat.le_refl _) _⟩
set_option maxRecDepth 100000 in
set_option maxHeartbeats 1000000 in
theorem asked_space (T : ByteArray) (hT : T.size ≤ 60) (w : World) :
    Calls Tryz.prog 6 #[.string T, .string nmSpace, .slice none 0 0] w fun e w' => e = .returned (.tuple #[.agg (bvv (spc T)), .slice none 0 0, .bool true]) ∧ Kept w w' := by
  have HC := Lib.hid (method_space T hT)
  clear hT
  generalize spc T = b at *
  have hV0 := Blk.new w 27 #[.int .i64 0, .bool false, .slice none 0 0, .int .u64 0, .string ⟨#[]⟩, .slice none 0 0]
  have hk0 : Kept w (w.alloc (.cells #[.int .i64 0, .bool false, .slice none 0 0, .int .u64 0, .string ⟨#[]⟩, .slice none 0 0] 27)) := (Below.refl _ _).alloc (Nat.le_refl _) _
  have HV0 := Lib.hid hV0
  have HK0 := Lib.hid hk0
  clear hV0 hk0
  go_enter Tryz.func6, Tryz.ntmps6
  go_wp2_with fail
  generalize w.alloc (.cells #[.int .i64 0, .bool false, .slice none 0 0, .int .u64 0, .string ⟨#[]⟩, .slice none 0 0] 27) = W0 at *
  refine (HC.out W0).mono ?_
  rintro e w2 ⟨rfl, hk2⟩
  have H := Lib.hid (HV0.out.below hk2)
  have HK := Lib.hid (HK0.out.trans hk2)
  have hst := run_storeVar_row (P := Tryz.prog) w2 w.heap.size 27 27 _ (bvv b) H.out info_V rfl (by simp [Value.oneCell', bvv])
  simp [go_sem, bvv_size] at hst
  have hb3 : Blk (w2.setRow w.heap.size (bvv b)) w.heap.size 27 (bvv b) := setRow_heap _ _ _ _ _ _ H.out
  have hk3 : Kept w (w2.setRow w.heap.size (bvv b)) := below_setRow HK.out (Nat.le_refl _) _
  have c5 : (w2.setRow w.heap.size (bvv b)).cell? ⟨w.heap.size, 5, none⟩ = some (.slice none 0 0) := hb3.cell 5
  have HB3 := Lib.hid hb3
  have HK3 := Lib.hid hk3
  clear hb3 hk3
  go_wp2_with fail
  generalize w2.setRow w.heap.size (bvv b) = w3 at *
  clear hst c5
  have hld := run_loadVar_row (P := Tryz.prog) w3 w.heap.size 27 27 (bvv b) (0, 0) _ HB3.out Tryz.underlying27 rfl (by exact info_V)
  have hst := run_storeVar_row (P := Tryz.prog) w3 w.heap.size 27 27 _ (bvv b) HB3.out info_V rfl (by simp [Value.oneCell', bvv])
  simp [go_sem, bvv_size] at hst hld
  go_rounds 1
  refine bodyPost_ret (results_cell_tmp_tmp rfl _ _ _ w.heap.size 27 (bvv b) _ _ rfl (setRow_heap _ _ _ _ _ _ HB3.out) Tryz.underlying27 (by exact info_V)) rfl ?_
  exact ⟨rfl, below_setRow HK3.out (Nat.le_refl _) _⟩
set_option maxRecDepth 100000 in
set_option maxHeartbeats 1000000 in
theorem FnTextIsSpace_any (S : ByteArray) (w : World) :
    Calls Tryz.prog 4 #[.string S] w fun e w' => e = .returned (.bool true) ∧ Kept w w' := by
  by_cases hS : S.size ≤ 2147483647
  · have hS' : ¬ (2147483647 : Int) < (S.size : Int) := by omega
    go_enter Tryz.func4, Tryz.ntmps4
    go_wp2_with fail
    refine (Ascii_any S hS w).mono ?_
    rintro e w1 ⟨T, rfl, hT, ha, hk1⟩
    go_wp2_with fail
    refine (asked_space T hT w1).mono ?_
    rintro e w2 ⟨rfl, hk2⟩
    have HI := Lib.hid (TextIsSpace_any T hT ha)
    have HK2 := Lib.hid (hk1.trans hk2)
    clear hk1 hk2 ha hT
    generalize spc T = b at *
    cases b
    all_goals
      simp only [bvv, if_true, if_false, Bool.false_eq_true]
      go_wp2_with fail
      (with_reducible refine Calls.mono (HI.out _) ?_)
      rintro e w3 ⟨rfl, hk3⟩
      have c3 := ((Blk.new w2 27 _).below hk3).cell 3
      simp only [List.getElem?_toArray, List.getElem?_cons_zero, List.getElem?_cons_succ] at c3
      have HK3 := Lib.hid (after_kept hk3)
      clear hk3
      go_wp2_with fail
      go_ret
      exact ⟨rfl, HK2.out.trans HK3.out⟩
  · have hS' : (2147483647 : Int) < (S.size : Int) := by omega
    go_enter Tryz.func4, Tryz.ntmps4
    go_wp2_with fail
    go_ret
    exact ⟨rfl, Below.refl _ _⟩
end Go.Proofs.YtcamjefacbaniaaGreat
