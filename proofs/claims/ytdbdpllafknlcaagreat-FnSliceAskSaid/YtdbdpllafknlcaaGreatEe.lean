/- The two indices of two parts. -/
import Derived.Test.YtdbdpllafknlcaaGreatEd
namespace Go.Proofs.YtdbdpllafknlcaaGreat
open Go.ChangeShapes Go.WideShapes Go.ChangeAt Go.RowKit
set_option linter.unusedVariables false
/-- two variables of a call that began in w -/
structure Two (w W : World) (a b : Int) : Prop where
  one : Blk W w.heap.size 3 #[.int .i64 a]
  two : Blk W (w.heap.size + 1) 3 #[.int .i64 b]
  kept : Kept w W
theorem Two.setA {w W : World} {a b : Int} (h : Two w W a b) (a' : Int) : Two w (W.setCell ⟨w.heap.size, 0, none⟩ (.int .i64 a')) a' b :=
  ⟨blk_set1 h.one, h.two.far (by omega) _, h.kept.setCell (Nat.le_refl _) _⟩
theorem Two.setB {w W : World} {a b : Int} (h : Two w W a b) (b' : Int) : Two w (W.setCell ⟨w.heap.size + 1, 0, none⟩ (.int .i64 b')) a b' :=
  ⟨h.one.far (by omega) _, blk_set1 h.two, h.kept.setCell (by simp only; omega) _⟩
theorem Two.onA {w W W' : World} {a b a' : Int} (h : Two w W a b) (hb : Blk W' w.heap.size 3 #[.int .i64 a']) (hg : W.grownBy W' (some w.heap.size)) : Two w W' a' b :=
  ⟨hb, (hg.block _ h.two.lt (by intro e; injection e with e; omega)).trans h.two, kept_of_only h.kept hg (Nat.le_refl _) (Nat.le_of_lt (h.one.lt))⟩
theorem Two.onB {w W W' : World} {a b b' : Int} (h : Two w W a b) (hb : Blk W' (w.heap.size + 1) 3 #[.int .i64 b']) (hg : W.grownBy W' (some (w.heap.size + 1))) : Two w W' a b' :=
  ⟨(hg.block _ h.one.lt (by intro e; injection e with e; omega)).trans h.one, hb, kept_of_only h.kept hg (by omega) (Nat.le_of_lt (h.one.lt))⟩
theorem Two.new (w : World) : Two w ((w.alloc (.cells #[.int .i64 0] 3)).alloc (.cells #[.int .i64 0] 3)) 0 0 :=
  ⟨(Blk.new w _ _).below ((Below.refl _ _).alloc (Nat.le_refl _) _), by have := Blk.new (w.alloc (.cells #[.int .i64 0] 3)) 3 #[.int .i64 0]; rwa [World.size_alloc] at this,
   ((Below.refl _ _).alloc (Nat.le_refl _) _).alloc (by simp) _⟩
theorem Two.facts {w W : World} {a b : Int} (h : Two w W a b) : W.cell? ⟨w.heap.size, 0, none⟩ = some (.int .i64 a) ∧ W.cell? ⟨w.heap.size + 1, 0, none⟩ = some (.int .i64 b) ∧ W.frozen? ⟨w.heap.size, 0, none⟩ = false ∧ W.frozen? ⟨w.heap.size + 1, 0, none⟩ = false :=
  ⟨h.one.cell 0, h.two.cell 0, h.one.frozen 0, h.two.frozen 0⟩
theorem clI_cases (n : Nat) (x : Int) : (x < 0 ∧ clI n x = 0) ∨ (¬ x < 0 ∧ (n : Int) < x ∧ clI n x = n) ∨ (¬ x < 0 ∧ ¬ (n : Int) < x ∧ clI n x = x) := by
  unfold clI
  split
  · exact .inl ⟨by assumption, rfl⟩
  · split
    · exact .inr (.inl ⟨by assumption, by assumption, rfl⟩)
    · exact .inr (.inr ⟨by assumption, by assumption, rfl⟩)
theorem results_cct {fn : Func} {p q r : Tmp} (h : fn.results = #[.cell p 3, .cell q 3, .tmp r]) (tmps : Array Value) (w : World) (g g' : Nat) (a b : Int)
    (hp : tmps.getD p undef = .pointer (some ⟨g, 0, none⟩)) (hg : w.cell? ⟨g, 0, none⟩ = some (.int .i64 a))
    (hp' : tmps.getD q undef = .pointer (some ⟨g', 0, none⟩)) (hg' : w.cell? ⟨g', 0, none⟩ = some (.int .i64 b)) :
    (results fn tmps).run Tryz.prog w = .ok (.tuple #[.int .i64 a, .int .i64 b, tmps.getD r undef]) w := by
  have e : tmps[p]?.getD undef = .pointer (some ⟨g, 0, none⟩) := by simpa using hp
  have e' : tmps[q]?.getD undef = .pointer (some ⟨g', 0, none⟩) := by simpa using hp'
  simp [results, h, e, e', asAddr, go_sem, hg, hg']
set_option maxRecDepth 100000 in
set_option maxHeartbeats 1000000 in
theorem indices_fine (v1 v2 : Value) (o1 o2 : Option Int) (n : Nat) (hn : n ≤ 2147483647) (w : World) (h1 : PV w v1 o1) (h2 : PV w v2 o2) :
    Calls Tryz.prog 31 #[v1, v2, .int .i64 n] w fun e w' => e = .returned (.tuple #[.int .i64 (clI n (idx n o1 0)), .int .i64 (clI n (idx n o2 n)), .nilIface]) ∧ Kept w w' := by
  have T0 := Lib.hid (Two.new w)
  obtain ⟨a1, a2, a3, a4⟩ := T0.out.facts
  have HC1 := fun W (T : Two w W 0 0) => Lib.hid (asIndex_any v1 o1 w.heap.size n 0 hn W T.one (h1.below T.kept))
  have HC2 := fun W a (T : Two w W a n) => Lib.hid (asIndex_any v2 o2 (w.heap.size + 1) n n hn W T.two (h2.below T.kept))
  obtain ⟨r1, hr1⟩ : ∃ r, r = idx n o1 0 := ⟨_, rfl⟩
  obtain ⟨r2, hr2⟩ : ∃ r, r = idx n o2 n := ⟨_, rfl⟩
  rw [← hr1] at HC1
  rw [← hr2] at HC2
  rw [← hr1, ← hr2]
  clear hr1 hr2 h1 h2
  obtain ⟨k1, hk1⟩ : ∃ k, k = clI n r1 := ⟨_, rfl⟩
  obtain ⟨k2, hk2⟩ : ∃ k, k = clI n r2 := ⟨_, rfl⟩
  rw [← hk1, ← hk2]
  have HK1 := Lib.hid hk1
  have HK2 := Lib.hid hk2
  clear hk1 hk2
  go_enter Tryz.func31, Tryz.ntmps31
  go_wp2_with fail
  refine (HC1 _ T0.out).out.mono ?_
  rintro e W1 ⟨rfl, hb1, hg1⟩
  have T1 := Lib.hid (T0.out.onA hb1 hg1)
  clear hb1 hg1 a1 a2 a3 a4 T0 HC1
  obtain ⟨a1, a2, a3, a4⟩ := T1.out.facts
  rcases clI_cases n r1 with ⟨x1, x2⟩ | ⟨x1, x1', x2⟩ | ⟨x1, x1', x2⟩
  · rw [x2] at HK1
    obtain rfl := HK1.out
    have T2 := Lib.hid (T1.out.setA 0)
    obtain ⟨b1, b2, b3, b4⟩ := T2.out.facts
    have T3 := Lib.hid (T2.out.setB n)
    obtain ⟨d1, d2, d3, d4⟩ := T3.out.facts
    go_wp2_with fail
    refine (HC2 _ _ T3.out).out.mono ?_
    rintro e W2 ⟨rfl, hb2, hg2⟩
    have U1 := Lib.hid (T3.out.onB hb2 hg2)
    clear hb2 hg2 HC2
    obtain ⟨e1, e2, e3, e4⟩ := U1.out.facts
    rcases clI_cases n r2 with ⟨y1, y2⟩ | ⟨y1, y1', y2⟩ | ⟨y1, y1', y2⟩
    · rw [y2] at HK2
      obtain rfl := HK2.out
      have U2 := Lib.hid (U1.out.setB 0)
      obtain ⟨g1, g2, g3, g4⟩ := U2.out.facts
      go_wp2_with fail
      have V := Lib.hid ((U2.out.setA 0).setB 0)
      refine bodyPost_ret (results_cct rfl _ _ w.heap.size (w.heap.size + 1) _ _ rfl V.out.facts.1 rfl V.out.facts.2.1) rfl ?_
      exact ⟨rfl, V.out.kept⟩
    · rw [y2] at HK2
      obtain rfl := HK2.out
      have U2 := Lib.hid (U1.out.setB n)
      obtain ⟨g1, g2, g3, g4⟩ := U2.out.facts
      go_wp2_with fail
      have V := Lib.hid ((U2.out.setA 0).setB n)
      refine bodyPost_ret (results_cct rfl _ _ w.heap.size (w.heap.size + 1) _ _ rfl V.out.facts.1 rfl V.out.facts.2.1) rfl ?_
      exact ⟨rfl, V.out.kept⟩
    · rw [y2] at HK2
      obtain rfl := HK2.out
      go_wp2_with fail
      have V := Lib.hid ((U1.out.setA 0).setB k2)
      refine bodyPost_ret (results_cct rfl _ _ w.heap.size (w.heap.size + 1) _ _ rfl V.out.facts.1 rfl V.out.facts.2.1) rfl ?_
      exact ⟨rfl, V.out.kept⟩
  · rw [x2] at HK1
    obtain rfl := HK1.out
    have T2 := Lib.hid (T1.out.setA n)
    obtain ⟨b1, b2, b3, b4⟩ := T2.out.facts
    have T3 := Lib.hid (T2.out.setB n)
    obtain ⟨d1, d2, d3, d4⟩ := T3.out.facts
    go_wp2_with fail
    refine (HC2 _ _ T3.out).out.mono ?_
    rintro e W2 ⟨rfl, hb2, hg2⟩
    have U1 := Lib.hid (T3.out.onB hb2 hg2)
    clear hb2 hg2 HC2
    obtain ⟨e1, e2, e3, e4⟩ := U1.out.facts
    rcases clI_cases n r2 with ⟨y1, y2⟩ | ⟨y1, y1', y2⟩ | ⟨y1, y1', y2⟩
    · rw [y2] at HK2
      obtain rfl := HK2.out
      have U2 := Lib.hid (U1.out.setB 0)
      obtain ⟨g1, g2, g3, g4⟩ := U2.out.facts
      go_wp2_with fail
      have V := Lib.hid ((U2.out.setA n).setB 0)
      refine bodyPost_ret (results_cct rfl _ _ w.heap.size (w.heap.size + 1) _ _ rfl V.out.facts.1 rfl V.out.facts.2.1) rfl ?_
      exact ⟨rfl, V.out.kept⟩
    · rw [y2] at HK2
      obtain rfl := HK2.out
      have U2 := Lib.hid (U1.out.setB n)
      obtain ⟨g1, g2, g3, g4⟩ := U2.out.facts
      go_wp2_with fail
      have V := Lib.hid ((U2.out.setA n).setB n)
      refine bodyPost_ret (results_cct rfl _ _ w.heap.size (w.heap.size + 1) _ _ rfl V.out.facts.1 rfl V.out.facts.2.1) rfl ?_
      exact ⟨rfl, V.out.kept⟩
    · rw [y2] at HK2
      obtain rfl := HK2.out
      go_wp2_with fail
      have V := Lib.hid ((U1.out.setA n).setB k2)
      refine bodyPost_ret (results_cct rfl _ _ w.heap.size (w.heap.size + 1) _ _ rfl V.out.facts.1 rfl V.out.facts.2.1) rfl ?_
      exact ⟨rfl, V.out.kept⟩
  · rw [x2] at HK1
    obtain rfl := HK1.out
    have T3 := Lib.hid (T1.out.setB n)
    obtain ⟨d1, d2, d3, d4⟩ := T3.out.facts
    go_wp2_with fail
    refine (HC2 _ _ T3.out).out.mono ?_
    rintro e W2 ⟨rfl, hb2, hg2⟩
    have U1 := Lib.hid (T3.out.onB hb2 hg2)
    clear hb2 hg2 HC2
    obtain ⟨e1, e2, e3, e4⟩ := U1.out.facts
    rcases clI_cases n r2 with ⟨y1, y2⟩ | ⟨y1, y1', y2⟩ | ⟨y1, y1', y2⟩
    · rw [y2] at HK2
      obtain rfl := HK2.out
      have U2 := Lib.hid (U1.out.setB 0)
      obtain ⟨g1, g2, g3, g4⟩ := U2.out.facts
      go_wp2_with fail
      have V := Lib.hid ((U2.out.setA k1).setB 0)
      refine bodyPost_ret (results_cct rfl _ _ w.heap.size (w.heap.size + 1) _ _ rfl V.out.facts.1 rfl V.out.facts.2.1) rfl ?_
      exact ⟨rfl, V.out.kept⟩
    · rw [y2] at HK2
      obtain rfl := HK2.out
      have U2 := Lib.hid (U1.out.setB n)
      obtain ⟨g1, g2, g3, g4⟩ := U2.out.facts
      go_wp2_with fail
      have V := Lib.hid ((U2.out.setA k1).setB n)
      refine bodyPost_ret (results_cct rfl _ _ w.heap.size (w.heap.size + 1) _ _ rfl V.out.facts.1 rfl V.out.facts.2.1) rfl ?_
      exact ⟨rfl, V.out.kept⟩
    · rw [y2] at HK2
      obtain rfl := HK2.out
      go_wp2_with fail
      have V := Lib.hid ((U1.out.setA k1).setB k2)
      refine bodyPost_ret (results_cct rfl _ _ w.heap.size (w.heap.size + 1) _ _ rfl V.out.facts.1 rfl V.out.facts.2.1) rfl ?_
      exact ⟨rfl, V.out.kept⟩
/-- behind indices of a part that is no integer -/
def BadTwo (w : World) (e : Ending) (w' : World) : Prop := (∃ u, e = .returned (.tuple #[.int .i64 0, .int .i64 0, .iface 103 u])) ∧ Kept w w'
theorem Two.below {w W W' : World} {a b : Int} (h : Two w W a b) (hk : Kept W W') : Two w W' a b :=
  ⟨h.one.below hk, h.two.below hk, Kept.trans h.kept hk⟩
set_option maxRecDepth 100000 in
theorem indices_bad1 (v2 : Value) (n : Nat) (w : World) :
    Calls Tryz.prog 31 #[.iface 81 (.string ⟨#[]⟩), v2, .int .i64 n] w (BadTwo w) := by
  have T0 := Lib.hid (Two.new w)
  obtain ⟨a1, a2, a3, a4⟩ := T0.out.facts
  have HC1 := fun W (T : Two w W 0 0) => Lib.hid (asIndex_text w.heap.size n 0 W T.one)
  go_enter Tryz.func31, Tryz.ntmps31
  go_wp2_with fail
  refine (HC1 _ T0.out).out.mono ?_
  rintro e W1 ⟨⟨u, rfl⟩, hb1, hg1⟩
  have T1 := Lib.hid (T0.out.onA hb1 hg1)
  clear hb1 hg1 a1 a2 a3 a4 T0 HC1
  go_wp2_with fail
  refine (errNew_any _ _).mono ?_
  rintro e W2 ⟨⟨u2, rfl⟩, hk⟩
  have T2 := Lib.hid (T1.out.below hk)
  clear hk T1
  obtain ⟨a1, a2, a3, a4⟩ := T2.out.facts
  go_wp2_with fail
  have V := Lib.hid ((T2.out.setA 0).setB 0)
  refine bodyPost_ret (results_cct rfl _ _ w.heap.size (w.heap.size + 1) _ _ rfl V.out.facts.1 rfl V.out.facts.2.1) rfl ?_
  exact ⟨⟨u2, rfl⟩, V.out.kept⟩
set_option maxRecDepth 100000 in
set_option maxHeartbeats 1000000 in
theorem indices_bad2 (v1 : Value) (o1 : Option Int) (n : Nat) (hn : n ≤ 2147483647) (w : World) (h1 : PV w v1 o1) :
    Calls Tryz.prog 31 #[v1, .iface 81 (.string ⟨#[]⟩), .int .i64 n] w (BadTwo w) := by
  have T0 := Lib.hid (Two.new w)
  obtain ⟨a1, a2, a3, a4⟩ := T0.out.facts
  have HC1 := fun W (T : Two w W 0 0) => Lib.hid (asIndex_any v1 o1 w.heap.size n 0 hn W T.one (h1.below T.kept))
  have HC2 := fun W a (T : Two w W a n) => Lib.hid (asIndex_text (w.heap.size + 1) n n W T.two)
  obtain ⟨r1, hr1⟩ : ∃ r, r = idx n o1 0 := ⟨_, rfl⟩
  rw [← hr1] at HC1
  clear hr1 h1
  go_enter Tryz.func31, Tryz.ntmps31
  go_wp2_with fail
  refine (HC1 _ T0.out).out.mono ?_
  rintro e W1 ⟨rfl, hb1, hg1⟩
  have T1 := Lib.hid (T0.out.onA hb1 hg1)
  clear hb1 hg1 a1 a2 a3 a4 T0 HC1
  obtain ⟨a1, a2, a3, a4⟩ := T1.out.facts
  rcases clI_cases n r1 with ⟨x1, x2⟩ | ⟨x1, x1', x2⟩ | ⟨x1, x1', x2⟩
  · have T2 := Lib.hid (T1.out.setA 0)
    obtain ⟨b1, b2, b3, b4⟩ := T2.out.facts
    have T3 := Lib.hid (T2.out.setB n)
    obtain ⟨d1, d2, d3, d4⟩ := T3.out.facts
    go_wp2_with fail
    refine (HC2 _ _ T3.out).out.mono ?_
    rintro e W2 ⟨⟨u, rfl⟩, hb2, hg2⟩
    have U1 := Lib.hid (T3.out.onB hb2 hg2)
    clear hb2 hg2 HC2
    go_wp2_with fail
    refine (errNew_any _ _).mono ?_
    rintro e W3 ⟨⟨u2, rfl⟩, hk⟩
    have U2 := Lib.hid (U1.out.below hk)
    clear hk U1
    obtain ⟨e1, e2, e3, e4⟩ := U2.out.facts
    have U3 := Lib.hid (U2.out.setA 0)
    obtain ⟨g1, g2, g3, g4⟩ := U3.out.facts
    go_wp2_with fail
    have V := Lib.hid (U3.out.setB 0)
    refine bodyPost_ret (results_cct rfl _ _ w.heap.size (w.heap.size + 1) _ _ rfl V.out.facts.1 rfl V.out.facts.2.1) rfl ?_
    exact ⟨⟨u2, rfl⟩, V.out.kept⟩
  · have T2 := Lib.hid (T1.out.setA n)
    obtain ⟨b1, b2, b3, b4⟩ := T2.out.facts
    have T3 := Lib.hid (T2.out.setB n)
    obtain ⟨d1, d2, d3, d4⟩ := T3.out.facts
    go_wp2_with fail
    refine (HC2 _ _ T3.out).out.mono ?_
    rintro e W2 ⟨⟨u, rfl⟩, hb2, hg2⟩
    have U1 := Lib.hid (T3.out.onB hb2 hg2)
    clear hb2 hg2 HC2
    go_wp2_with fail
    refine (errNew_any _ _).mono ?_
    rintro e W3 ⟨⟨u2, rfl⟩, hk⟩
    have U2 := Lib.hid (U1.out.below hk)
    clear hk U1
    obtain ⟨e1, e2, e3, e4⟩ := U2.out.facts
    have U3 := Lib.hid (U2.out.setA 0)
    obtain ⟨g1, g2, g3, g4⟩ := U3.out.facts
    go_wp2_with fail
    have V := Lib.hid (U3.out.setB 0)
    refine bodyPost_ret (results_cct rfl _ _ w.heap.size (w.heap.size + 1) _ _ rfl V.out.facts.1 rfl V.out.facts.2.1) rfl ?_
    exact ⟨⟨u2, rfl⟩, V.out.kept⟩
  · have T3 := Lib.hid (T1.out.setB n)
    obtain ⟨d1, d2, d3, d4⟩ := T3.out.facts
    go_wp2_with fail
    refine (HC2 _ _ T3.out).out.mono ?_
    rintro e W2 ⟨⟨u, rfl⟩, hb2, hg2⟩
    have U1 := Lib.hid (T3.out.onB hb2 hg2)
    clear hb2 hg2 HC2
    go_wp2_with fail
    refine (errNew_any _ _).mono ?_
    rintro e W3 ⟨⟨u2, rfl⟩, hk⟩
    have U2 := Lib.hid (U1.out.below hk)
    clear hk U1
    obtain ⟨e1, e2, e3, e4⟩ := U2.out.facts
    have U3 := Lib.hid (U2.out.setA 0)
    obtain ⟨g1, g2, g3, g4⟩ := U3.out.facts
    go_wp2_with fail
    have V := Lib.hid (U3.out.setB 0)
    refine bodyPost_ret (results_cct rfl _ _ w.heap.size (w.heap.size + 1) _ _ rfl V.out.facts.1 rfl V.out.facts.2.1) rfl ?_
    exact ⟨⟨u2, rfl⟩, V.out.kept⟩
end Go.Proofs.YtdbdpllafknlcaaGreat
