/- A slice of a sequence that keeps what it was asked. -/
import Derived.Test.YtdbdpllafknlcaaGreatEe
namespace Go.Proofs.YtdbdpllafknlcaaGreat
open Go.ChangeShapes Go.WideShapes Go.ChangeAt Go.RowKit
set_option linter.unusedVariables false
/-- behind slice: the sequence keeps what it was asked -/
def SlOk (g : Nat) (n a b s : Int) (w : World) (e : Ending) (w' : World) : Prop :=
  e = .returned (.tuple #[.iface 52 (.pointer (some ⟨g, 0, none⟩)), .nilIface]) ∧ Blk w' g 54 #[.int .i64 n, .int .i64 a, .int .i64 b, .int .i64 s] ∧ Below g w w' ∧ w.heap.size ≤ w'.heap.size
/-- behind slice: refused -/
def SlBad (w : World) (e : Ending) (w' : World) : Prop := (∃ u, e = .returned (.tuple #[.nilIface, .iface 103 u])) ∧ Kept w w'
theorem SlOk.of {g : Nat} {n a b s : Int} {w W w' : World} (hk : Kept w W) (hg : g < w.heap.size) (hb : Blk w' g 54 #[.int .i64 n, .int .i64 a, .int .i64 b, .int .i64 s]) (ho : W.grownBy w' (some g)) :
    SlOk g n a b s w (.returned (.tuple #[.iface 52 (.pointer (some ⟨g, 0, none⟩)), .nilIface])) w' :=
  ⟨rfl, hb, kept_of_only (hk.mono (Nat.le_of_lt hg)) ho (Nat.le_refl _) (Nat.le_trans (Nat.le_of_lt hg) hk.size), Nat.le_trans hk.size ho.size⟩
theorem Two.newA (w : World) (a : Int) : Two w ((w.alloc (.cells #[.int .i64 a] 3)).alloc (.cells #[.int .i64 0] 3)) a 0 :=
  ⟨(Blk.new w _ _).below ((Below.refl _ _).alloc (Nat.le_refl _) _), by have := Blk.new (w.alloc (.cells #[.int .i64 a] 3)) 3 #[.int .i64 0]; rwa [World.size_alloc] at this,
   ((Below.refl _ _).alloc (Nat.le_refl _) _).alloc (by simp) _⟩
theorem askSlice_two (g : Nat) (n a0 b0 s0 a b s : Int) (w W : World) (hk : Kept w W) (hb : Blk w g 54 #[.int .i64 n, .int .i64 a0, .int .i64 b0, .int .i64 s0]) :
    Calls Tryz.prog 77 #[.pointer (some ⟨g, 0, none⟩), .int .i64 a, .int .i64 b, .int .i64 s] W fun e w' => e = .returned (.iface 52 (.pointer (some ⟨g, 0, none⟩))) ∧ SlOk g n a b s w (.returned (.tuple #[.iface 52 (.pointer (some ⟨g, 0, none⟩)), .nilIface])) w' := by
  refine (askSlice_any g n a0 b0 s0 a b s W (hb.below hk)).mono ?_
  rintro e w' ⟨rfl, h1, h2⟩
  exact ⟨rfl, SlOk.of hk hb.lt h1 h2⟩
set_option maxRecDepth 100000 in
set_option maxHeartbeats 1000000 in
theorem slice_steptext (g n : Nat) (a0 b0 s0 : Int) (hn : n ≤ 2147483647) (v1 v2 : Value) (w : World) (hb : Blk w g 54 #[.int .i64 n, .int .i64 a0, .int .i64 b0, .int .i64 s0]) :
    Calls Tryz.prog 22 #[.iface 52 (.pointer (some ⟨g, 0, none⟩)), v1, v2, .iface 81 (.string ⟨#[]⟩)] w (SlBad w) := by
  have ta : ∀ w : World, (Instr.typeAssert (.iface 52 (.pointer (some ⟨g, 0, none⟩))) 48 84 true).run Tryz.prog w = .ok (.tuple #[.iface 52 (.pointer (some ⟨g, 0, none⟩)), .bool true]) w := fun _ => by kernel_rfl
  have tn : ∀ w : World, (binOp .neq 48 (.iface 81 (.string ⟨#[]⟩)) (.iface 70 (.int .u8 0))).run Tryz.prog w = .ok (.bool true) w := fun _ => by kernel_rfl
  have HL := Lib.hid (askLen_any g n a0 b0 s0 w hb)
  have HV := Lib.hid (AsInt32_text w)
  clear hb
  go_enter Tryz.func22, Tryz.ntmps22
  go_wp2_with fail
  refine HL.out.mono ?_
  rintro e W0 ⟨rfl, rfl⟩
  clear HL
  go_wp2_with fail
  refine HV.out.mono ?_
  rintro e w1 ⟨⟨u, rfl⟩, hk⟩
  clear HV
  have HB0 := Lib.hid hk
  clear hk
  go_wp2_with fail
  refine (errNew_any _ _).mono ?_
  rintro e W9 ⟨⟨u2, rfl⟩, hk9⟩
  have HZ := Lib.hid (Kept.trans HB0.out hk9)
  clear hk9
  go_wp2_with fail
  go_ret2
  exact ⟨⟨u2, rfl⟩, HZ.out⟩
set_option maxRecDepth 100000 in
set_option maxHeartbeats 1000000 in
theorem slice_zero (g n : Nat) (a0 b0 s0 : Int) (hn : n ≤ 2147483647) (v1 v2 : Value) (w : World) (hb : Blk w g 54 #[.int .i64 n, .int .i64 a0, .int .i64 b0, .int .i64 s0]) (x : Int) (p : Option Addr) (s : Int) (hs : s = 0) (hs1 : Sm s = true) (hv : StI w (.agg #[.int .i64 x, .pointer p]) s) :
    Calls Tryz.prog 22 #[.iface 52 (.pointer (some ⟨g, 0, none⟩)), v1, v2, .iface 76 (.agg #[.int .i64 x, .pointer p])] w (SlBad w) := by
  have ta : ∀ w : World, (Instr.typeAssert (.iface 52 (.pointer (some ⟨g, 0, none⟩))) 48 84 true).run Tryz.prog w = .ok (.tuple #[.iface 52 (.pointer (some ⟨g, 0, none⟩)), .bool true]) w := fun _ => by kernel_rfl
  have tn : ∀ w : World, (binOp .neq 48 (.iface 76 (.agg #[.int .i64 x, .pointer p])) (.iface 70 (.int .u8 0))).run Tryz.prog w = .ok (.bool true) w := fun _ => by kernel_rfl
  have HL := Lib.hid (askLen_any g n a0 b0 s0 w hb)
  have HV := Lib.hid (AsInt32_any x p s w hv)
  subst hs
  clear hb hv
  go_enter Tryz.func22, Tryz.ntmps22
  go_wp2_with fail
  refine HL.out.mono ?_
  rintro e W0 ⟨rfl, rfl⟩
  clear HL
  go_wp2_with fail
  refine HV.out.mono ?_
  rintro e w1 ⟨⟨_, rfl⟩ | ⟨h, _⟩, hk⟩
  rotate_left
  · rw [hs1] at h; cases h
  have HB0 := Lib.hid hk
  clear hk HV
  go_wp2_with fail
  refine (errNew_any _ _).mono ?_
  rintro e W9 ⟨⟨u2, rfl⟩, hk9⟩
  have HZ := Lib.hid (Kept.trans HB0.out hk9)
  clear hk9
  go_wp2_with fail
  go_ret2
  exact ⟨⟨u2, rfl⟩, HZ.out⟩
set_option maxRecDepth 100000 in
set_option maxHeartbeats 1000000 in
theorem slice_none_pos_fine (g n : Nat) (a0 b0 s0 : Int) (hn : n ≤ 2147483647) (v1 v2 : Value) (w : World) (hb : Blk w g 54 #[.int .i64 n, .int .i64 a0, .int .i64 b0, .int .i64 s0]) (o1 o2 : Option Int) (h1 : PV w v1 o1) (h2 : PV w v2 o2) :
    Calls Tryz.prog 22 #[.iface 52 (.pointer (some ⟨g, 0, none⟩)), v1, v2, .iface 70 (.int .u8 0)] w (SlOk g n (aI n 1 o1 o2) (bI n 1 o1 o2) 1 w) := by
  have ta : ∀ w : World, (Instr.typeAssert (.iface 52 (.pointer (some ⟨g, 0, none⟩))) 48 84 true).run Tryz.prog w = .ok (.tuple #[.iface 52 (.pointer (some ⟨g, 0, none⟩)), .bool true]) w := fun _ => by kernel_rfl
  have tn : ∀ w : World, (binOp .neq 48 (.iface 70 (.int .u8 0)) (.iface 70 (.int .u8 0))).run Tryz.prog w = .ok (.bool false) w := fun _ => by kernel_rfl
  have HL := Lib.hid (askLen_any g n a0 b0 s0 w hb)
  have HS := fun W a b s (k : Kept w W) => Lib.hid (askSlice_two g n a0 b0 s0 a b s w W k hb)
  have hs : (0 : Int) < 1 := by omega
  have HI := fun W (k : Kept w W) => Lib.hid (indices_fine v1 v2 o1 o2 n hn W (h1.below k) (h2.below k))
  obtain ⟨c1, hc1⟩ : ∃ c, c = clI n (idx n o1 0) := ⟨_, rfl⟩
  obtain ⟨c2, hc2⟩ : ∃ c, c = clI n (idx n o2 n) := ⟨_, rfl⟩
  have hA : aI n 1 o1 o2 = c1 := by unfold aI; rw [if_pos hs, hc1]
  have hB : bI n 1 o1 o2 = if c2 < c1 then c1 else c2 := by unfold bI; rw [if_pos hs, hc1, hc2]
  rw [← hc1, ← hc2] at HI
  obtain ⟨bb, hbb⟩ : ∃ b, b = bI n 1 o1 o2 := ⟨_, rfl⟩
  rw [← hbb] at hB
  rw [hA, ← hbb]
  have HB := Lib.hid hB
  clear hA hB hbb hc1 hc2 h1 h2
  clear hb
  go_enter Tryz.func22, Tryz.ntmps22
  go_wp2_with fail
  refine HL.out.mono ?_
  rintro e W0 ⟨rfl, rfl⟩
  clear HL
  have HB0 := Lib.hid (Below.refl w.heap.size w)
  have T0 := Lib.hid (Two.new w)
  obtain ⟨x1, x2, x3, x4⟩ := T0.out.facts
  go_wp2_with fail
  refine (HI _ (Kept.trans HB0.out T0.out.kept)).out.mono ?_
  rintro e W1 ⟨rfl, hk1⟩
  have T1 := Lib.hid (T0.out.below hk1)
  clear x1 x2 x3 x4 T0 hk1 HI
  obtain ⟨x1, x2, x3, x4⟩ := T1.out.facts
  have T2 := Lib.hid (T1.out.setA c1)
  obtain ⟨y1, y2, y3, y4⟩ := T2.out.facts
  have T3 := Lib.hid (T2.out.setB c2)
  obtain ⟨z1, z2, z3, z4⟩ := T3.out.facts
  by_cases hlt : c2 < c1
  · rw [if_pos hlt] at HB
    have T4 := Lib.hid (T3.out.setB c1)
    obtain ⟨t1, t2, t3, t4⟩ := T4.out.facts
    have hbe := HB.out
    subst hbe
    go_wp2_with fail
    refine (HS _ _ _ 1 (Kept.trans HB0.out T4.out.kept)).out.mono ?_
    rintro e W2 ⟨rfl, hf⟩
    have HF := Lib.hid hf
    clear hf
    go_wp2_with fail
    go_ret2
    exact HF.out
  · rw [if_neg hlt] at HB
    have hbe := HB.out
    subst hbe
    go_wp2_with fail
    refine (HS _ _ _ 1 (Kept.trans HB0.out T3.out.kept)).out.mono ?_
    rintro e W2 ⟨rfl, hf⟩
    have HF := Lib.hid hf
    clear hf
    go_wp2_with fail
    go_ret2
    exact HF.out
set_option maxRecDepth 100000 in
set_option maxHeartbeats 1000000 in
theorem slice_none_pos_bad1 (g n : Nat) (a0 b0 s0 : Int) (hn : n ≤ 2147483647) (v2 : Value) (w : World) (hb : Blk w g 54 #[.int .i64 n, .int .i64 a0, .int .i64 b0, .int .i64 s0]) :
    Calls Tryz.prog 22 #[.iface 52 (.pointer (some ⟨g, 0, none⟩)), .iface 81 (.string ⟨#[]⟩), v2, .iface 70 (.int .u8 0)] w (SlBad w) := by
  have ta : ∀ w : World, (Instr.typeAssert (.iface 52 (.pointer (some ⟨g, 0, none⟩))) 48 84 true).run Tryz.prog w = .ok (.tuple #[.iface 52 (.pointer (some ⟨g, 0, none⟩)), .bool true]) w := fun _ => by kernel_rfl
  have tn : ∀ w : World, (binOp .neq 48 (.iface 70 (.int .u8 0)) (.iface 70 (.int .u8 0))).run Tryz.prog w = .ok (.bool false) w := fun _ => by kernel_rfl
  have HL := Lib.hid (askLen_any g n a0 b0 s0 w hb)
  have hs : (0 : Int) < 1 := by omega
  have HI := fun W => Lib.hid (indices_bad1 v2 n W)
  clear hb
  go_enter Tryz.func22, Tryz.ntmps22
  go_wp2_with fail
  refine HL.out.mono ?_
  rintro e W0 ⟨rfl, rfl⟩
  clear HL
  have HB0 := Lib.hid (Below.refl w.heap.size w)
  have T0 := Lib.hid (Two.new w)
  obtain ⟨x1, x2, x3, x4⟩ := T0.out.facts
  go_wp2_with fail
  refine (HI _).out.mono ?_
  rintro e W1 ⟨⟨u, rfl⟩, hk1⟩
  have T1 := Lib.hid (T0.out.below hk1)
  clear x1 x2 x3 x4 T0 hk1 HI
  obtain ⟨x1, x2, x3, x4⟩ := T1.out.facts
  have T2 := Lib.hid (T1.out.setA 0)
  obtain ⟨y1, y2, y3, y4⟩ := T2.out.facts
  have HZ := Lib.hid (Kept.trans HB0.out (T2.out.setB 0).kept)
  go_wp2_with fail
  go_ret2
  exact ⟨⟨u, rfl⟩, HZ.out⟩
set_option maxRecDepth 100000 in
set_option maxHeartbeats 1000000 in
theorem slice_none_pos_bad2 (g n : Nat) (a0 b0 s0 : Int) (hn : n ≤ 2147483647) (v1 : Value) (w : World) (hb : Blk w g 54 #[.int .i64 n, .int .i64 a0, .int .i64 b0, .int .i64 s0]) (o1 : Option Int) (h1 : PV w v1 o1) :
    Calls Tryz.prog 22 #[.iface 52 (.pointer (some ⟨g, 0, none⟩)), v1, .iface 81 (.string ⟨#[]⟩), .iface 70 (.int .u8 0)] w (SlBad w) := by
  have ta : ∀ w : World, (Instr.typeAssert (.iface 52 (.pointer (some ⟨g, 0, none⟩))) 48 84 true).run Tryz.prog w = .ok (.tuple #[.iface 52 (.pointer (some ⟨g, 0, none⟩)), .bool true]) w := fun _ => by kernel_rfl
  have tn : ∀ w : World, (binOp .neq 48 (.iface 70 (.int .u8 0)) (.iface 70 (.int .u8 0))).run Tryz.prog w = .ok (.bool false) w := fun _ => by kernel_rfl
  have HL := Lib.hid (askLen_any g n a0 b0 s0 w hb)
  have hs : (0 : Int) < 1 := by omega
  have HI := fun W (k : Kept w W) => Lib.hid (indices_bad2 v1 o1 n hn W (h1.below k))
  clear h1
  clear hb
  go_enter Tryz.func22, Tryz.ntmps22
  go_wp2_with fail
  refine HL.out.mono ?_
  rintro e W0 ⟨rfl, rfl⟩
  clear HL
  have HB0 := Lib.hid (Below.refl w.heap.size w)
  have T0 := Lib.hid (Two.new w)
  obtain ⟨x1, x2, x3, x4⟩ := T0.out.facts
  go_wp2_with fail
  refine (HI _ (Kept.trans HB0.out T0.out.kept)).out.mono ?_
  rintro e W1 ⟨⟨u, rfl⟩, hk1⟩
  have T1 := Lib.hid (T0.out.below hk1)
  clear x1 x2 x3 x4 T0 hk1 HI
  obtain ⟨x1, x2, x3, x4⟩ := T1.out.facts
  have T2 := Lib.hid (T1.out.setA 0)
  obtain ⟨y1, y2, y3, y4⟩ := T2.out.facts
  have HZ := Lib.hid (Kept.trans HB0.out (T2.out.setB 0).kept)
  go_wp2_with fail
  go_ret2
  exact ⟨⟨u, rfl⟩, HZ.out⟩
set_option maxRecDepth 100000 in
set_option maxHeartbeats 1000000 in
theorem slice_num_pos_fine (g n : Nat) (a0 b0 s0 : Int) (hn : n ≤ 2147483647) (v1 v2 : Value) (w : World) (hb : Blk w g 54 #[.int .i64 n, .int .i64 a0, .int .i64 b0, .int .i64 s0]) (x : Int) (p : Option Addr) (s : Int) (hs : 0 < s) (hs1 : Sm s = true) (hv : StI w (.agg #[.int .i64 x, .pointer p]) s) (o1 o2 : Option Int) (h1 : PV w v1 o1) (h2 : PV w v2 o2) :
    Calls Tryz.prog 22 #[.iface 52 (.pointer (some ⟨g, 0, none⟩)), v1, v2, .iface 76 (.agg #[.int .i64 x, .pointer p])] w (SlOk g n (aI n s o1 o2) (bI n s o1 o2) s w) := by
  have ta : ∀ w : World, (Instr.typeAssert (.iface 52 (.pointer (some ⟨g, 0, none⟩))) 48 84 true).run Tryz.prog w = .ok (.tuple #[.iface 52 (.pointer (some ⟨g, 0, none⟩)), .bool true]) w := fun _ => by kernel_rfl
  have tn : ∀ w : World, (binOp .neq 48 (.iface 76 (.agg #[.int .i64 x, .pointer p])) (.iface 70 (.int .u8 0))).run Tryz.prog w = .ok (.bool true) w := fun _ => by kernel_rfl
  have HL := Lib.hid (askLen_any g n a0 b0 s0 w hb)
  have HV := Lib.hid (AsInt32_any x p s w hv)
  have HS := fun W a b s (k : Kept w W) => Lib.hid (askSlice_two g n a0 b0 s0 a b s w W k hb)
  have HI := fun W (k : Kept w W) => Lib.hid (indices_fine v1 v2 o1 o2 n hn W (h1.below k) (h2.below k))
  obtain ⟨c1, hc1⟩ : ∃ c, c = clI n (idx n o1 0) := ⟨_, rfl⟩
  obtain ⟨c2, hc2⟩ : ∃ c, c = clI n (idx n o2 n) := ⟨_, rfl⟩
  have hA : aI n s o1 o2 = c1 := by unfold aI; rw [if_pos hs, hc1]
  have hB : bI n s o1 o2 = if c2 < c1 then c1 else c2 := by unfold bI; rw [if_pos hs, hc1, hc2]
  rw [← hc1, ← hc2] at HI
  obtain ⟨bb, hbb⟩ : ∃ b, b = bI n s o1 o2 := ⟨_, rfl⟩
  rw [← hbb] at hB
  rw [hA, ← hbb]
  have HB := Lib.hid hB
  clear hA hB hbb hc1 hc2 h1 h2
  clear hb hv
  go_enter Tryz.func22, Tryz.ntmps22
  go_wp2_with fail
  refine HL.out.mono ?_
  rintro e W0 ⟨rfl, rfl⟩
  clear HL
  go_wp2_with fail
  refine HV.out.mono ?_
  rintro e w1 ⟨⟨_, rfl⟩ | ⟨h, _⟩, hk⟩
  rotate_left
  · rw [hs1] at h; cases h
  have HB0 := Lib.hid hk
  clear hk HV
  have T0 := Lib.hid (Two.new w1)
  obtain ⟨x1, x2, x3, x4⟩ := T0.out.facts
  go_wp2_with fail
  refine (HI _ (Kept.trans HB0.out T0.out.kept)).out.mono ?_
  rintro e W1 ⟨rfl, hk1⟩
  have T1 := Lib.hid (T0.out.below hk1)
  clear x1 x2 x3 x4 T0 hk1 HI
  obtain ⟨x1, x2, x3, x4⟩ := T1.out.facts
  have T2 := Lib.hid (T1.out.setA c1)
  obtain ⟨y1, y2, y3, y4⟩ := T2.out.facts
  have T3 := Lib.hid (T2.out.setB c2)
  obtain ⟨z1, z2, z3, z4⟩ := T3.out.facts
  by_cases hlt : c2 < c1
  · rw [if_pos hlt] at HB
    have T4 := Lib.hid (T3.out.setB c1)
    obtain ⟨t1, t2, t3, t4⟩ := T4.out.facts
    have hbe := HB.out
    subst hbe
    go_wp2_with fail
    refine (HS _ _ _ s (Kept.trans HB0.out T4.out.kept)).out.mono ?_
    rintro e W2 ⟨rfl, hf⟩
    have HF := Lib.hid hf
    clear hf
    go_wp2_with fail
    go_ret2
    exact HF.out
  · rw [if_neg hlt] at HB
    have hbe := HB.out
    subst hbe
    go_wp2_with fail
    refine (HS _ _ _ s (Kept.trans HB0.out T3.out.kept)).out.mono ?_
    rintro e W2 ⟨rfl, hf⟩
    have HF := Lib.hid hf
    clear hf
    go_wp2_with fail
    go_ret2
    exact HF.out
set_option maxRecDepth 100000 in
set_option maxHeartbeats 1000000 in
theorem slice_num_pos_bad1 (g n : Nat) (a0 b0 s0 : Int) (hn : n ≤ 2147483647) (v2 : Value) (w : World) (hb : Blk w g 54 #[.int .i64 n, .int .i64 a0, .int .i64 b0, .int .i64 s0]) (x : Int) (p : Option Addr) (s : Int) (hs : 0 < s) (hs1 : Sm s = true) (hv : StI w (.agg #[.int .i64 x, .pointer p]) s) :
    Calls Tryz.prog 22 #[.iface 52 (.pointer (some ⟨g, 0, none⟩)), .iface 81 (.string ⟨#[]⟩), v2, .iface 76 (.agg #[.int .i64 x, .pointer p])] w (SlBad w) := by
  have ta : ∀ w : World, (Instr.typeAssert (.iface 52 (.pointer (some ⟨g, 0, none⟩))) 48 84 true).run Tryz.prog w = .ok (.tuple #[.iface 52 (.pointer (some ⟨g, 0, none⟩)), .bool true]) w := fun _ => by kernel_rfl
  have tn : ∀ w : World, (binOp .neq 48 (.iface 76 (.agg #[.int .i64 x, .pointer p])) (.iface 70 (.int .u8 0))).run Tryz.prog w = .ok (.bool true) w := fun _ => by kernel_rfl
  have HL := Lib.hid (askLen_any g n a0 b0 s0 w hb)
  have HV := Lib.hid (AsInt32_any x p s w hv)
  have HI := fun W => Lib.hid (indices_bad1 v2 n W)
  clear hb hv
  go_enter Tryz.func22, Tryz.ntmps22
  go_wp2_with fail
  refine HL.out.mono ?_
  rintro e W0 ⟨rfl, rfl⟩
  clear HL
  go_wp2_with fail
  refine HV.out.mono ?_
  rintro e w1 ⟨⟨_, rfl⟩ | ⟨h, _⟩, hk⟩
  rotate_left
  · rw [hs1] at h; cases h
  have HB0 := Lib.hid hk
  clear hk HV
  have T0 := Lib.hid (Two.new w1)
  obtain ⟨x1, x2, x3, x4⟩ := T0.out.facts
  go_wp2_with fail
  refine (HI _).out.mono ?_
  rintro e W1 ⟨⟨u, rfl⟩, hk1⟩
  have T1 := Lib.hid (T0.out.below hk1)
  clear x1 x2 x3 x4 T0 hk1 HI
  obtain ⟨x1, x2, x3, x4⟩ := T1.out.facts
  have T2 := Lib.hid (T1.out.setA 0)
  obtain ⟨y1, y2, y3, y4⟩ := T2.out.facts
  have HZ := Lib.hid (Kept.trans HB0.out (T2.out.setB 0).kept)
  go_wp2_with fail
  go_ret2
  exact ⟨⟨u, rfl⟩, HZ.out⟩
set_option maxRecDepth 100000 in
set_option maxHeartbeats 1000000 in
theorem slice_num_pos_bad2 (g n : Nat) (a0 b0 s0 : Int) (hn : n ≤ 2147483647) (v1 : Value) (w : World) (hb : Blk w g 54 #[.int .i64 n, .int .i64 a0, .int .i64 b0, .int .i64 s0]) (x : Int) (p : Option Addr) (s : Int) (hs : 0 < s) (hs1 : Sm s = true) (hv : StI w (.agg #[.int .i64 x, .pointer p]) s) (o1 : Option Int) (h1 : PV w v1 o1) :
    Calls Tryz.prog 22 #[.iface 52 (.pointer (some ⟨g, 0, none⟩)), v1, .iface 81 (.string ⟨#[]⟩), .iface 76 (.agg #[.int .i64 x, .pointer p])] w (SlBad w) := by
  have ta : ∀ w : World, (Instr.typeAssert (.iface 52 (.pointer (some ⟨g, 0, none⟩))) 48 84 true).run Tryz.prog w = .ok (.tuple #[.iface 52 (.pointer (some ⟨g, 0, none⟩)), .bool true]) w := fun _ => by kernel_rfl
  have tn : ∀ w : World, (binOp .neq 48 (.iface 76 (.agg #[.int .i64 x, .pointer p])) (.iface 70 (.int .u8 0))).run Tryz.prog w = .ok (.bool true) w := fun _ => by kernel_rfl
  have HL := Lib.hid (askLen_any g n a0 b0 s0 w hb)
  have HV := Lib.hid (AsInt32_any x p s w hv)
  have HI := fun W (k : Kept w W) => Lib.hid (indices_bad2 v1 o1 n hn W (h1.below k))
  clear h1
  clear hb hv
  go_enter Tryz.func22, Tryz.ntmps22
  go_wp2_with fail
  refine HL.out.mono ?_
  rintro e W0 ⟨rfl, rfl⟩
  clear HL
  go_wp2_with fail
  refine HV.out.mono ?_
  rintro e w1 ⟨⟨_, rfl⟩ | ⟨h, _⟩, hk⟩
  rotate_left
  · rw [hs1] at h; cases h
  have HB0 := Lib.hid hk
  clear hk HV
  have T0 := Lib.hid (Two.new w1)
  obtain ⟨x1, x2, x3, x4⟩ := T0.out.facts
  go_wp2_with fail
  refine (HI _ (Kept.trans HB0.out T0.out.kept)).out.mono ?_
  rintro e W1 ⟨⟨u, rfl⟩, hk1⟩
  have T1 := Lib.hid (T0.out.below hk1)
  clear x1 x2 x3 x4 T0 hk1 HI
  obtain ⟨x1, x2, x3, x4⟩ := T1.out.facts
  have T2 := Lib.hid (T1.out.setA 0)
  obtain ⟨y1, y2, y3, y4⟩ := T2.out.facts
  have HZ := Lib.hid (Kept.trans HB0.out (T2.out.setB 0).kept)
  go_wp2_with fail
  go_ret2
  exact ⟨⟨u, rfl⟩, HZ.out⟩
set_option maxRecDepth 100000 in
set_option maxHeartbeats 1000000 in
theorem slice_num_neg_fine (g n : Nat) (a0 b0 s0 : Int) (hn : n ≤ 2147483647) (v1 v2 : Value) (w : World) (hb : Blk w g 54 #[.int .i64 n, .int .i64 a0, .int .i64 b0, .int .i64 s0]) (x : Int) (p : Option Addr) (s : Int) (hs : s < 0) (hs1 : Sm s = true) (hv : StI w (.agg #[.int .i64 x, .pointer p]) s) (o1 o2 : Option Int) (h1 : PV w v1 o1) (h2 : PV w v2 o2) :
    Calls Tryz.prog 22 #[.iface 52 (.pointer (some ⟨g, 0, none⟩)), v1, v2, .iface 76 (.agg #[.int .i64 x, .pointer p])] w (SlOk g n (aI n s o1 o2) (bI n s o1 o2) s w) := by
  have ta : ∀ w : World, (Instr.typeAssert (.iface 52 (.pointer (some ⟨g, 0, none⟩))) 48 84 true).run Tryz.prog w = .ok (.tuple #[.iface 52 (.pointer (some ⟨g, 0, none⟩)), .bool true]) w := fun _ => by kernel_rfl
  have tn : ∀ w : World, (binOp .neq 48 (.iface 76 (.agg #[.int .i64 x, .pointer p])) (.iface 70 (.int .u8 0))).run Tryz.prog w = .ok (.bool true) w := fun _ => by kernel_rfl
  have HL := Lib.hid (askLen_any g n a0 b0 s0 w hb)
  have HV := Lib.hid (AsInt32_any x p s w hv)
  have HS := fun W a b s (k : Kept w W) => Lib.hid (askSlice_two g n a0 b0 s0 a b s w W k hb)
  have hsn : ¬ 0 < s := by omega
  have HC1 := fun B W (k : Kept w B) (T : Two B W ((n : Int) - 1) 0) => Lib.hid (asIndex_any v1 o1 B.heap.size n ((n : Int) - 1) hn W T.one (h1.below (Kept.trans k T.kept)))
  obtain ⟨r1, hr1⟩ : ∃ r, r = idx n o1 ((n : Int) - 1) := ⟨_, rfl⟩
  rw [← hr1] at HC1
  have HC2 := fun B W a (k : Kept w B) (T : Two B W a (-1)) => Lib.hid (asIndex_any v2 o2 (B.heap.size + 1) n (-1) hn W T.two (h2.below (Kept.trans k T.kept)))
  obtain ⟨r2, hr2⟩ : ∃ r, r = idx n o2 (-1) := ⟨_, rfl⟩
  rw [← hr2] at HC2
  obtain ⟨bb, hbb⟩ : ∃ b, b = bI n s o1 o2 := ⟨_, rfl⟩
  obtain ⟨aa, haa⟩ : ∃ a, a = aI n s o1 o2 := ⟨_, rfl⟩
  have hB : bb = if r2 < -1 then -1 else r2 := by rw [hbb]; unfold bI; rw [if_neg hsn, hr2]
  have hA : aa = if (if (n : Int) ≤ r1 then (n : Int) - 1 else r1) < bb then bb else (if (n : Int) ≤ r1 then (n : Int) - 1 else r1) := by
    rw [haa, hB, hr1, hr2]; unfold aI; rw [if_neg hsn]
  rw [← haa, ← hbb]
  have HA := Lib.hid hA
  have HB := Lib.hid hB
  clear hA hB haa hbb hr1 hr2 h1 h2
  clear hb hv
  go_enter Tryz.func22, Tryz.ntmps22
  go_wp2_with fail
  refine HL.out.mono ?_
  rintro e W0 ⟨rfl, rfl⟩
  clear HL
  go_wp2_with fail
  refine HV.out.mono ?_
  rintro e w1 ⟨⟨_, rfl⟩ | ⟨h, _⟩, hk⟩
  rotate_left
  · rw [hs1] at h; cases h
  have HB0 := Lib.hid hk
  clear hk HV
  have T1 := Lib.hid (Two.newA w1 ((n : Int) - 1))
  obtain ⟨x1, x2, x3, x4⟩ := T1.out.facts
  go_wp2_with fail
  refine (HC1 _ _ HB0.out T1.out).out.mono ?_
  rintro e W1 ⟨rfl, hb1, hg1⟩
  have T2 := Lib.hid (T1.out.onA hb1 hg1)
  clear hb1 hg1 x1 x2 x3 x4 HC1 T1
  obtain ⟨x1, x2, x3, x4⟩ := T2.out.facts
  by_cases hc1 : (n : Int) ≤ r1
  · have T3 := Lib.hid (T2.out.setA ((n : Int) - 1))
    obtain ⟨y1, y2, y3, y4⟩ := T3.out.facts
    rw [if_pos hc1] at HA
    have T4 := Lib.hid (T3.out.setB (-1))
    obtain ⟨z1, z2, z3, z4⟩ := T4.out.facts
    go_wp2_with fail
    refine (HC2 _ _ _ HB0.out T4.out).out.mono ?_
    rintro e W2 ⟨rfl, hb2, hg2⟩
    have T5 := Lib.hid (T4.out.onB hb2 hg2)
    clear hb2 hg2 HC2
    obtain ⟨q1, q2, q3, q4⟩ := T5.out.facts
    by_cases hc2 : r2 < -1
    · rw [if_pos hc2] at HB
      have T6 := Lib.hid (T5.out.setB (-1))
      obtain ⟨p1, p2, p3, p4⟩ := T6.out.facts
      have hbe := HB.out
      subst hbe
      by_cases hc3 : ((n : Int) - 1) < (-1)
      · exfalso; omega
      · rw [if_neg hc3] at HA
        have hae := HA.out
        subst hae
        have T7 := T6
        go_wp2_with fail
        refine (HS _ _ _ s (Kept.trans HB0.out T7.out.kept)).out.mono ?_
        rintro e W3 ⟨rfl, hf⟩
        have HF := Lib.hid hf
        clear hf
        go_wp2_with fail
        go_ret2
        exact HF.out
    · rw [if_neg hc2] at HB
      have T6 := T5
      obtain rfl := HB.out
      by_cases hc3 : ((n : Int) - 1) < bb
      · rw [if_pos hc3] at HA
        have T7 := Lib.hid (T6.out.setA bb)
        obtain ⟨t1, t2, t3, t4⟩ := T7.out.facts
        have hae := HA.out
        subst hae
        go_wp2_with fail
        refine (HS _ _ _ s (Kept.trans HB0.out T7.out.kept)).out.mono ?_
        rintro e W3 ⟨rfl, hf⟩
        have HF := Lib.hid hf
        clear hf
        go_wp2_with fail
        go_ret2
        exact HF.out
      · rw [if_neg hc3] at HA
        have hae := HA.out
        subst hae
        have T7 := T6
        go_wp2_with fail
        refine (HS _ _ _ s (Kept.trans HB0.out T7.out.kept)).out.mono ?_
        rintro e W3 ⟨rfl, hf⟩
        have HF := Lib.hid hf
        clear hf
        go_wp2_with fail
        go_ret2
        exact HF.out
  · have T3 := T2
    rw [if_neg hc1] at HA
    have T4 := Lib.hid (T3.out.setB (-1))
    obtain ⟨z1, z2, z3, z4⟩ := T4.out.facts
    go_wp2_with fail
    refine (HC2 _ _ _ HB0.out T4.out).out.mono ?_
    rintro e W2 ⟨rfl, hb2, hg2⟩
    have T5 := Lib.hid (T4.out.onB hb2 hg2)
    clear hb2 hg2 HC2
    obtain ⟨q1, q2, q3, q4⟩ := T5.out.facts
    by_cases hc2 : r2 < -1
    · rw [if_pos hc2] at HB
      have T6 := Lib.hid (T5.out.setB (-1))
      obtain ⟨p1, p2, p3, p4⟩ := T6.out.facts
      have hbe := HB.out
      subst hbe
      by_cases hc3 : r1 < (-1)
      · rw [if_pos hc3] at HA
        have T7 := Lib.hid (T6.out.setA (-1))
        obtain ⟨t1, t2, t3, t4⟩ := T7.out.facts
        have hae := HA.out
        subst hae
        go_wp2_with fail
        refine (HS _ _ _ s (Kept.trans HB0.out T7.out.kept)).out.mono ?_
        rintro e W3 ⟨rfl, hf⟩
        have HF := Lib.hid hf
        clear hf
        go_wp2_with fail
        go_ret2
        exact HF.out
      · rw [if_neg hc3] at HA
        have hae := HA.out
        subst hae
        have T7 := T6
        go_wp2_with fail
        refine (HS _ _ _ s (Kept.trans HB0.out T7.out.kept)).out.mono ?_
        rintro e W3 ⟨rfl, hf⟩
        have HF := Lib.hid hf
        clear hf
        go_wp2_with fail
        go_ret2
        exact HF.out
    · rw [if_neg hc2] at HB
      have T6 := T5
      obtain rfl := HB.out
      by_cases hc3 : r1 < bb
      · rw [if_pos hc3] at HA
        have T7 := Lib.hid (T6.out.setA bb)
        obtain ⟨t1, t2, t3, t4⟩ := T7.out.facts
        have hae := HA.out
        subst hae
        go_wp2_with fail
        refine (HS _ _ _ s (Kept.trans HB0.out T7.out.kept)).out.mono ?_
        rintro e W3 ⟨rfl, hf⟩
        have HF := Lib.hid hf
        clear hf
        go_wp2_with fail
        go_ret2
        exact HF.out
      · rw [if_neg hc3] at HA
        have hae := HA.out
        subst hae
        have T7 := T6
        go_wp2_with fail
        refine (HS _ _ _ s (Kept.trans HB0.out T7.out.kept)).out.mono ?_
        rintro e W3 ⟨rfl, hf⟩
        have HF := Lib.hid hf
        clear hf
        go_wp2_with fail
        go_ret2
        exact HF.out
set_option maxRecDepth 100000 in
set_option maxHeartbeats 1000000 in
theorem slice_num_neg_bad1 (g n : Nat) (a0 b0 s0 : Int) (hn : n ≤ 2147483647) (v2 : Value) (w : World) (hb : Blk w g 54 #[.int .i64 n, .int .i64 a0, .int .i64 b0, .int .i64 s0]) (x : Int) (p : Option Addr) (s : Int) (hs : s < 0) (hs1 : Sm s = true) (hv : StI w (.agg #[.int .i64 x, .pointer p]) s) :
    Calls Tryz.prog 22 #[.iface 52 (.pointer (some ⟨g, 0, none⟩)), .iface 81 (.string ⟨#[]⟩), v2, .iface 76 (.agg #[.int .i64 x, .pointer p])] w (SlBad w) := by
  have ta : ∀ w : World, (Instr.typeAssert (.iface 52 (.pointer (some ⟨g, 0, none⟩))) 48 84 true).run Tryz.prog w = .ok (.tuple #[.iface 52 (.pointer (some ⟨g, 0, none⟩)), .bool true]) w := fun _ => by kernel_rfl
  have tn : ∀ w : World, (binOp .neq 48 (.iface 76 (.agg #[.int .i64 x, .pointer p])) (.iface 70 (.int .u8 0))).run Tryz.prog w = .ok (.bool true) w := fun _ => by kernel_rfl
  have HL := Lib.hid (askLen_any g n a0 b0 s0 w hb)
  have HV := Lib.hid (AsInt32_any x p s w hv)
  have hsn : ¬ 0 < s := by omega
  have HC1 := fun B W (T : Two B W ((n : Int) - 1) 0) => Lib.hid (asIndex_text B.heap.size n ((n : Int) - 1) W T.one)
  clear hb hv
  go_enter Tryz.func22, Tryz.ntmps22
  go_wp2_with fail
  refine HL.out.mono ?_
  rintro e W0 ⟨rfl, rfl⟩
  clear HL
  go_wp2_with fail
  refine HV.out.mono ?_
  rintro e w1 ⟨⟨_, rfl⟩ | ⟨h, _⟩, hk⟩
  rotate_left
  · rw [hs1] at h; cases h
  have HB0 := Lib.hid hk
  clear hk HV
  have T1 := Lib.hid (Two.newA w1 ((n : Int) - 1))
  obtain ⟨x1, x2, x3, x4⟩ := T1.out.facts
  go_wp2_with fail
  refine (HC1 _ _ T1.out).out.mono ?_
  rintro e W1 ⟨⟨u, rfl⟩, hb1, hg1⟩
  have T2 := Lib.hid (T1.out.onA hb1 hg1)
  clear hb1 hg1
  go_wp2_with fail
  refine (errNew_any _ _).mono ?_
  rintro e W9 ⟨⟨u2, rfl⟩, hk9⟩
  have HZ := Lib.hid (Kept.trans (Kept.trans HB0.out T2.out.kept) hk9)
  clear hk9
  go_wp2_with fail
  go_ret2
  exact ⟨⟨u2, rfl⟩, HZ.out⟩
set_option maxRecDepth 100000 in
set_option maxHeartbeats 1000000 in
theorem slice_num_neg_bad2 (g n : Nat) (a0 b0 s0 : Int) (hn : n ≤ 2147483647) (v1 : Value) (w : World) (hb : Blk w g 54 #[.int .i64 n, .int .i64 a0, .int .i64 b0, .int .i64 s0]) (x : Int) (p : Option Addr) (s : Int) (hs : s < 0) (hs1 : Sm s = true) (hv : StI w (.agg #[.int .i64 x, .pointer p]) s) (o1 : Option Int) (h1 : PV w v1 o1) :
    Calls Tryz.prog 22 #[.iface 52 (.pointer (some ⟨g, 0, none⟩)), v1, .iface 81 (.string ⟨#[]⟩), .iface 76 (.agg #[.int .i64 x, .pointer p])] w (SlBad w) := by
  have ta : ∀ w : World, (Instr.typeAssert (.iface 52 (.pointer (some ⟨g, 0, none⟩))) 48 84 true).run Tryz.prog w = .ok (.tuple #[.iface 52 (.pointer (some ⟨g, 0, none⟩)), .bool true]) w := fun _ => by kernel_rfl
  have tn : ∀ w : World, (binOp .neq 48 (.iface 76 (.agg #[.int .i64 x, .pointer p])) (.iface 70 (.int .u8 0))).run Tryz.prog w = .ok (.bool true) w := fun _ => by kernel_rfl
  have HL := Lib.hid (askLen_any g n a0 b0 s0 w hb)
  have HV := Lib.hid (AsInt32_any x p s w hv)
  have hsn : ¬ 0 < s := by omega
  have HC1 := fun B W (k : Kept w B) (T : Two B W ((n : Int) - 1) 0) => Lib.hid (asIndex_any v1 o1 B.heap.size n ((n : Int) - 1) hn W T.one (h1.below (Kept.trans k T.kept)))
  obtain ⟨r1, hr1⟩ : ∃ r, r = idx n o1 ((n : Int) - 1) := ⟨_, rfl⟩
  rw [← hr1] at HC1
  have HC2 := fun B W a (T : Two B W a (-1)) => Lib.hid (asIndex_text (B.heap.size + 1) n (-1) W T.two)
  clear hr1 h1
  clear hb hv
  go_enter Tryz.func22, Tryz.ntmps22
  go_wp2_with fail
  refine HL.out.mono ?_
  rintro e W0 ⟨rfl, rfl⟩
  clear HL
  go_wp2_with fail
  refine HV.out.mono ?_
  rintro e w1 ⟨⟨_, rfl⟩ | ⟨h, _⟩, hk⟩
  rotate_left
  · rw [hs1] at h; cases h
  have HB0 := Lib.hid hk
  clear hk HV
  have T1 := Lib.hid (Two.newA w1 ((n : Int) - 1))
  obtain ⟨x1, x2, x3, x4⟩ := T1.out.facts
  go_wp2_with fail
  refine (HC1 _ _ HB0.out T1.out).out.mono ?_
  rintro e W1 ⟨rfl, hb1, hg1⟩
  have T2 := Lib.hid (T1.out.onA hb1 hg1)
  clear hb1 hg1 x1 x2 x3 x4 HC1 T1
  obtain ⟨x1, x2, x3, x4⟩ := T2.out.facts
  by_cases hc1 : (n : Int) ≤ r1
  · have T3 := Lib.hid (T2.out.setA ((n : Int) - 1))
    obtain ⟨y1, y2, y3, y4⟩ := T3.out.facts
    have T4 := Lib.hid (T3.out.setB (-1))
    obtain ⟨z1, z2, z3, z4⟩ := T4.out.facts
    go_wp2_with fail
    refine (HC2 _ _ _ T4.out).out.mono ?_
    rintro e W2 ⟨⟨u, rfl⟩, hb2, hg2⟩
    have T5 := Lib.hid (T4.out.onB hb2 hg2)
    clear hb2 hg2
    go_wp2_with fail
    refine (errNew_any _ _).mono ?_
    rintro e W9 ⟨⟨u2, rfl⟩, hk9⟩
    have HZ := Lib.hid (Kept.trans (Kept.trans HB0.out T5.out.kept) hk9)
    clear hk9
    go_wp2_with fail
    go_ret2
    exact ⟨⟨u2, rfl⟩, HZ.out⟩
  · have T3 := T2
    have T4 := Lib.hid (T3.out.setB (-1))
    obtain ⟨z1, z2, z3, z4⟩ := T4.out.facts
    go_wp2_with fail
    refine (HC2 _ _ _ T4.out).out.mono ?_
    rintro e W2 ⟨⟨u, rfl⟩, hb2, hg2⟩
    have T5 := Lib.hid (T4.out.onB hb2 hg2)
    clear hb2 hg2
    go_wp2_with fail
    refine (errNew_any _ _).mono ?_
    rintro e W9 ⟨⟨u2, rfl⟩, hk9⟩
    have HZ := Lib.hid (Kept.trans (Kept.trans HB0.out T5.out.kept) hk9)
    clear hk9
    go_wp2_with fail
    go_ret2
    exact ⟨⟨u2, rfl⟩, HZ.out⟩
end Go.Proofs.YtdbdpllafknlcaaGreat
