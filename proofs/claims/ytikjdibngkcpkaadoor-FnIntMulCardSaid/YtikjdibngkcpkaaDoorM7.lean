/- Integers multiplied, of both forms. -/
import Derived.Test.YtikjdibngkcpkaaDoorM6
import Derived.Deep.RegionHeld3
namespace Go.Proofs.YtikjdibngkcpkaaDoor
open Go.ChangeShapes Go.WideShapes Go.ChangeAt Go.RowKit
set_option linter.unusedVariables false
/-- a pointer to an integer of the package, in a block below B or made by the call -/
def RetBig (B : Nat) (p : Option Addr) (w : World) (z : Int) (e : Ending) (w' : World) : Prop := ∃ g, e = .returned (.pointer (some ⟨g, 0, none⟩)) ∧ BI w' g z ∧ (g < B ∨ w.heap.size ≤ g) ∧ (p = some ⟨g, 0, none⟩ ∨ w.heap.size ≤ g) ∧ Kept w w'
set_option maxRecDepth 100000 in
theorem bigInt_any (B : Nat) (x : Int) (p : Option Addr) (z : Int) (w : World) (hv : StI w (.agg #[.int .i64 x, .pointer p]) z) (hB : ∀ g, p = some ⟨g, 0, none⟩ → g < B) :
    Calls Tryd.prog 23 #[.agg #[.int .i64 x, .pointer p]] w (RetBig B p w z) := by
  rcases hv with ⟨e, hs⟩ | ⟨g, e, hb, hs⟩
  · injection e with e; injection e with e; injection e with e1 e2; injection e2 with e2 _; injection e1 with _ e1; injection e2 with e2; subst e1 e2
    have HR := Lib.hid (of_decide_eq_true hs)
    clear hs hB
    go_enter Tryd.func23, Tryd.ntmps23
    go_wp2_with fail
    refine (get_any x none _).mono ?_
    rintro e w1 ⟨rfl, hk⟩
    have hk1 := (alloc_kept hk).1
    go_wp2_with fail
    refine (NewInt_any x HR.out.1 HR.out.2 w1).mono ?_
    rintro e w2 ⟨g, rfl, hb2, hg2, hk2⟩
    have HB := Lib.hid hb2
    clear hb2
    go_wp2_with fail
    go_ret
    exact ⟨g, rfl, HB.out.toBI, .inr (Nat.le_trans hk1.size hg2), .inr (Nat.le_trans hk1.size hg2), hk1.trans hk2⟩
  · injection e with e; injection e with e; injection e with e1 e2; injection e2 with e2 _; injection e1 with _ e1; injection e2 with e2; subst e1 e2
    have HB := Lib.hid hb
    have HL := Lib.hid (hB g rfl)
    clear hb hs hB
    go_enter Tryd.func23, Tryd.ntmps23
    go_wp2_with fail
    refine (get_any 0 (some ⟨g, 0, none⟩) _).mono ?_
    rintro e w1 ⟨rfl, hk⟩
    have hk1 := (alloc_kept hk).1
    go_wp2_with fail
    go_ret
    exact ⟨g, rfl, HB.out.below hk1, .inl HL.out, .inl rfl, hk1⟩
set_option maxRecDepth 100000 in
theorem NewInt64_any (x : Int) (h1 : -9223372036854775808 ≤ x) (h2 : x ≤ 9223372036854775807) (w : World) :
    Calls Tryd.prog 26 #[.int .i64 x] w (RetNew w x) := by
  have hB : Num.B64 = 18446744073709551616 := rfl
  rcases Int.lt_trichotomy x 0 with h | h | h
  · have e0 : (x == 0) = false := by simp; omega
    have e1 : IntKind.u64.wrap x = x + 18446744073709551616 := by rw [IntKind.wrap_u64]; omega
    have e2 : IntKind.u64.wrap (-(x + 18446744073709551616)) = -x := by rw [IntKind.wrap_u64]; omega
    go_enter Tryd.func26, Tryd.ntmps26
    go_wp2_with fail
    go_ret
    exact new_two w x (-x) true (by omega) (by omega) (decide_eq_true h) (by omega)
  · subst h
    go_enter Tryd.func26, Tryd.ntmps26
    go_wp2_with fail
    go_ret
    refine ⟨_, rfl, ⟨none, 0, [], Blk.new w 54 #[.bool false, .slice none 0 0], Sl.nil _, ⟨Num.Can.nil _, rfl⟩, fun b off e => by cases e⟩, Nat.le_refl _, (Below.refl _ _).alloc (Nat.le_refl _) _⟩
  · have e0 : (x == 0) = false := by simp; omega
    have e1 : IntKind.u64.wrap x = x := by rw [IntKind.wrap_u64]; omega
    go_enter Tryd.func26, Tryd.ntmps26
    go_wp2_with fail
    go_ret
    exact new_two w x x _ (by omega) (by omega) rfl (by omega)
set_option maxRecDepth 100000 in
/-- of a difference of two int32: at most 33 bits -/
theorem MakeInt64_any (z : Int) (h1 : -9223372036854775808 ≤ z) (h2 : z ≤ 9223372036854775807) (w : World) :
    Calls Tryd.prog 24 #[.int .i64 z] w (RetStI w z) := by
  by_cases hS : Sm z = true
  · have hR := of_decide_eq_true hS
    obtain ⟨r1, r2⟩ := hR
    have HS := Lib.hid hS
    clear hS
    go_enter Tryd.func24, Tryd.ntmps24
    go_wp2_with fail
    refine (makeSmall_any z _).mono ?_
    rintro e w1 ⟨rfl, hb1⟩
    have H := Lib.hid (blk_after hb1)
    obtain ⟨hw1, hz1⟩ := alloc_kept hb1
    go_wp2_with (refine wpList_store_row rfl 42 (.tmp 2) (.tmp 10) rfl w.heap.size _ rfl rfl 42 _ H.out info_stI rfl (by simp [Value.oneCell']) ?_)
    refine bodyPost_blk (cs := #[.int .i64 z, .pointer none]) rfl rfl (setRow_heap _ _ _ _ _ _ H.out) Tryd.underlying42 rfl (by exact info_stI) rfl ?_
    exact ⟨_, rfl, .inl ⟨rfl, HS.out⟩, below_setRow hw1 (Nat.le_refl _) _⟩
  · have hS' : Sm z = false := by simpa using hS
    have HS := Lib.hid hS'
    have hn : (decide (-2147483648 ≤ z) = false) ∨ (decide (-2147483648 ≤ z) = true ∧ decide (z ≤ 2147483647) = false) := by
      have : ¬ (-2147483648 ≤ z ∧ z ≤ 2147483647) := of_decide_eq_false hS'
      by_cases h : -2147483648 ≤ z
      · exact .inr ⟨decide_eq_true h, decide_eq_false (fun h3 => this ⟨h, h3⟩)⟩
      · exact .inl (decide_eq_false h)
    clear hS hS'
    rcases hn with n1 | ⟨n1, n2⟩
    all_goals
      go_enter Tryd.func24, Tryd.ntmps24
      go_wp2_with fail
      refine (NewInt64_any z h1 h2 _).mono ?_
      rintro e w1 ⟨g, rfl, hb1, hg1, hk1⟩
      have HB := Lib.hid hb1
      clear hb1
      have hkk := (alloc_kept hk1).1
      have hblk := blk_after hk1
      have HBK := Lib.hid hblk
      clear hblk
      go_wp2_with fail
      refine (makeBig_any _ _).mono ?_
      rintro e w2 ⟨rfl, hk2⟩
      have H := Lib.hid ((hk2.block w.heap.size (block_lt HBK.out)).trans HBK.out)
      have hb2 := HB.out.below hk2
      have hw2 := hkk.trans hk2
      have hgs : w.heap.size < g := by have h3 := hg1; simp at h3; omega
      have hb3 := hb2.mono (B' := w.heap.size + 1) (by simp)
      clear hb2
      go_wp2_with (refine wpList_store_row rfl 42 (.tmp 2) (.tmp 13) rfl w.heap.size _ rfl rfl 42 _ H.out info_stI rfl (by simp [Value.oneCell']) ?_)
      refine bodyPost_blk (cs := #[.int .i64 0, .pointer (some ⟨g, 0, none⟩)]) rfl rfl (setRow_heap _ _ _ _ _ _ H.out) Tryd.underlying42 rfl (by exact info_stI) rfl ?_
      exact ⟨_, rfl, .inr ⟨_, rfl, by omega, (hb3.setRow (k := w.heap.size) (by omega) (by omega)).mono (by omega), HS.out⟩, below_setRow hw2 (Nat.le_refl _) _⟩
theorem StI.lt {w : World} {x z : Int} {p : Option Addr} (h : StI w (.agg #[.int .i64 x, .pointer p]) z) : ∀ g, p = some ⟨g, 0, none⟩ → g < w.heap.size := fun g e => by
  subst e; rcases h with ⟨e, _⟩ | ⟨g', e, hb, _⟩
  · injection e with e; injection e with e; injection e with _ e; injection e with e _; injection e with e; cases e
  · injection e with e; injection e with e; injection e with _ e; injection e with e _; injection e with e; injection e with e; injection e with e; subst e; exact hb.lt
theorem Blk.behind {w w' : World} {g : Nat} {t : TypeId} {cs : Array Value} (h : Blk w g t cs) (hb : Kept w w') : Blk w' g t cs := h.below hb
theorem Blk.behindD {w w' : World} {g : Nat} {t : TypeId} {cs : Array Value} (h : Blk w g t cs) (hb : Kept w.drew w') : Blk w' g t cs := Blk.below (w := w.drew) h hb
set_option maxRecDepth 100000 in
theorem bigMul_any (g x y : Nat) (X Y : Int) (hX : X.natAbs < Num.B64 ^ 39) (hY : Y.natAbs < Num.B64 ^ 39) (w : World) (hg : BI0 w g) (hx : BI w x X) (hy : BI w y Y) (hgx : g ≠ x) (hgy : g ≠ y) (hxy : x ≠ y) (hgl : w.cell? ⟨2, 0, none⟩ = some (.int .i64 40)) :
    Calls Tryd.prog 22 #[.pointer (some ⟨g, 0, none⟩), .pointer (some ⟨x, 0, none⟩), .pointer (some ⟨y, 0, none⟩)] w (RetPF w g (X * Y)) := by
  have C := Lib.hid (bigmul_in g x y X Y hX hY hgx hgy hxy w hg hx hy hgl)
  clear hg hx hy hgl hX hY
  generalize X * Y = Z at *
  go_enter Tryd.func22, Tryd.ntmps22
  go_wp2_with fail
  (with_reducible refine C.out.mono ?_)
  rintro e w1 ⟨rfl, h1, h2⟩
  have H := Lib.hid (And.intro h1 h2)
  clear h1 h2
  go_wp2_with fail
  go_ret
  exact ⟨rfl, H.out.1, H.out.2⟩
set_option maxRecDepth 100000 in
set_option maxHeartbeats 2000000 in
/-- where one of the two is great, the package's own operation is asked -/
theorem iMul_big1 (x0 x1 : Int) (a1 : Addr) (x y r : Int) (hr : r.natAbs < Num.Cap) (w : World)
    (hx : StI w (.agg #[.int .i64 x0, .pointer none]) x) (hy : StI w (.agg #[.int .i64 x1, .pointer (some a1)]) y)
    (hne : ∀ g h : Nat, (none : Option Addr) = some ⟨g, 0, none⟩ → ((some a1) : Option Addr) = some ⟨h, 0, none⟩ → g ≠ h) (hgl : w.cell? ⟨2, 0, none⟩ = some (.int .i64 40))
    (C : ∀ (g a b : Nat) (W : World), BI0 W g → BI W a x → BI W b y → g ≠ a → g ≠ b → a ≠ b → W.cell? ⟨2, 0, none⟩ = some (.int .i64 40) → Calls Tryd.prog 22 #[.pointer (some ⟨g, 0, none⟩), .pointer (some ⟨a, 0, none⟩), .pointer (some ⟨b, 0, none⟩)] W (RetPF W g r)) :
    Calls Tryd.prog 12 #[.agg #[.int .i64 x0, .pointer none], .agg #[.int .i64 x1, .pointer (some a1)]] w (RetStI w r) := by
  have hp0 : ∀ g : Nat, (none : Option Addr) = some ⟨g, 0, none⟩ → g < w.heap.size := hx.lt
  have hp1 : ∀ g : Nat, ((some a1) : Option Addr) = some ⟨g, 0, none⟩ → g < w.heap.size := hy.lt
  have b1 : Blk (((w.alloc (.cells #[.int .i64 x0, .pointer none] 42)).alloc (.cells #[.int .i64 x1, .pointer (some a1)] 42)).alloc (.cells #[.int .i64 0, .pointer none] 42)) w.heap.size 42 #[.int .i64 x0, .pointer none] :=
    ((Blk.new w _ _).below ((Below.refl _ _).alloc (Nat.le_refl _) _)).below ((Below.refl _ _).alloc (Nat.le_refl _) _)
  have b2 : Blk (((w.alloc (.cells #[.int .i64 x0, .pointer none] 42)).alloc (.cells #[.int .i64 x1, .pointer (some a1)] 42)).alloc (.cells #[.int .i64 0, .pointer none] 42)) (w.heap.size + 1) 42 #[.int .i64 x1, .pointer (some a1)] := by
    have := (Blk.new (w.alloc (.cells #[.int .i64 x0, .pointer none] 42)) 42 #[.int .i64 x1, .pointer (some a1)]).below ((Below.refl _ _).alloc (Nat.le_refl _) (.cells #[.int .i64 0, .pointer none] 42))
    rwa [World.size_alloc] at this
  have b3 : Blk (((w.alloc (.cells #[.int .i64 x0, .pointer none] 42)).alloc (.cells #[.int .i64 x1, .pointer (some a1)] 42)).alloc (.cells #[.int .i64 0, .pointer none] 42)) (w.heap.size + 1 + 1) 42 #[.int .i64 0, .pointer none] := by
    have := Blk.new ((w.alloc (.cells #[.int .i64 x0, .pointer none] 42)).alloc (.cells #[.int .i64 x1, .pointer (some a1)] 42)) 42 #[.int .i64 0, .pointer none]
    rwa [World.size_alloc, World.size_alloc] at this
  have hk0 : Kept w (((w.alloc (.cells #[.int .i64 x0, .pointer none] 42)).alloc (.cells #[.int .i64 x1, .pointer (some a1)] 42)).alloc (.cells #[.int .i64 0, .pointer none] 42)) := by go_grown
  have HC := Lib.hid C
  have HNE := Lib.hid hne
  have HGL := Lib.hid hgl
  clear hne hgl
  have HX := Lib.hid hx
  have HY := Lib.hid hy
  have HP0 := Lib.hid hp0
  have HP1 := Lib.hid hp1
  clear C hx hy hp0 hp1
  go_enter Tryd.func12, Tryd.ntmps12
  go_wp2_with fail
  generalize (((w.alloc (.cells #[.int .i64 x0, .pointer none] 42)).alloc (.cells #[.int .i64 x1, .pointer (some a1)] 42)).alloc (.cells #[.int .i64 0, .pointer none] 42)) = W at *
  refine (get_any x0 none W).mono ?_
  rintro e w1 ⟨rfl, hk1⟩
  have b1' := b1.below hk1
  have b2' := b2.below hk1
  have b3' := b3.below hk1
  have hkk1 : Kept w w1 := Below.trans hk0 (hk1.mono hk0.size)
  clear b1 b2 b3 hk1 hk0
  have c2 := b2'.cell 0
  have c3 := b2'.cell 1
  simp only [List.getElem?_toArray, List.getElem?_cons_zero, List.getElem?_cons_succ] at c2 c3
  go_wp2_with fail
  refine (get_any x1 (some a1) w1).mono ?_
  rintro e w2 ⟨rfl, hk2⟩
  have B1 := Lib.hid (b1'.below hk2)
  have B2 := Lib.hid (b2'.below hk2)
  have B3 := Lib.hid (b3'.below hk2)
  have hkk2 : Kept w w2 := hkk1.trans hk2
  have HX2 := Lib.hid (HX.out.below hkk2)
  have HY2 := Lib.hid (HY.out.below hkk2)
  have HQ0 : Hid (∀ g : Nat, (none : Option Addr) = some ⟨g, 0, none⟩ → g < w2.heap.size) := Lib.hid fun g e => Nat.lt_of_lt_of_le (HP0.out g e) hkk2.size
  have HQ1 : Hid (∀ g : Nat, ((some a1) : Option Addr) = some ⟨g, 0, none⟩ → g < w2.heap.size) := Lib.hid fun g e => Nat.lt_of_lt_of_le (HP1.out g e) hkk2.size
  have HK2 := Lib.hid hkk2
  have l3 : w.heap.size + 1 + 1 < w2.heap.size := B3.out.lt
  clear b1' b2' b3' c2 c3 hk2 hkk1 HX HY HP0 HP1 hkk2
  have KEEP : Hid (∀ X : World, Kept w2 X → X.cell? ⟨w.heap.size, 0, none⟩ = some (.int .i64 x0) ∧ X.cell? ⟨w.heap.size, 1, none⟩ = some (.pointer none) ∧ X.cell? ⟨w.heap.size + 1, 0, none⟩ = some (.int .i64 x1) ∧ X.cell? ⟨w.heap.size + 1, 1, none⟩ = some (.pointer (some a1))) := Lib.hid fun X h =>
    ⟨(B1.out.below h).cell 0, (B1.out.below h).cell 1, (B2.out.below h).cell 0, (B2.out.below h).cell 1⟩
  have KEEP2 : Hid (∀ (X : World) (cs : Array Value), Kept w2 X → (X.setRow (w.heap.size + 1 + 1) cs).cell? ⟨w.heap.size, 0, none⟩ = some (.int .i64 x0) ∧ (X.setRow (w.heap.size + 1 + 1) cs).cell? ⟨w.heap.size, 1, none⟩ = some (.pointer none) ∧ (X.setRow (w.heap.size + 1 + 1) cs).cell? ⟨w.heap.size + 1, 0, none⟩ = some (.int .i64 x1) ∧ (X.setRow (w.heap.size + 1 + 1) cs).cell? ⟨w.heap.size + 1, 1, none⟩ = some (.pointer (some a1))) := Lib.hid fun X cs h =>
    ⟨(cell_setRow_other _ _ _ _ (by simp only; omega)).trans (KEEP.out X h).1, (cell_setRow_other _ _ _ _ (by simp only; omega)).trans (KEEP.out X h).2.1, (cell_setRow_other _ _ _ _ (by simp only; omega)).trans (KEEP.out X h).2.2.1, (cell_setRow_other _ _ _ _ (by simp only; omega)).trans (KEEP.out X h).2.2.2⟩
  go_wp2_with fail
  go_region_held3 (fun X : World => X.cell? ⟨w.heap.size, 0, none⟩ = some (.int .i64 x0) ∧ X.cell? ⟨w.heap.size, 1, none⟩ = some (.pointer none) ∧ X.cell? ⟨w.heap.size + 1, 0, none⟩ = some (.int .i64 x1) ∧ X.cell? ⟨w.heap.size + 1, 1, none⟩ = some (.pointer (some a1)))
    (first
      | exact KEEP2.out _ _ hK6
      | exact KEEP.out _ (by go_grown))
    (first
      | (go_at_call 23
         (with_reducible refine Calls.mono (bigInt_any w2.heap.size x0 none x _ ?_ HQ0.out) ?_)
         · exact HX2.out.below (by go_grown)
         rintro e w3 ⟨g3, rfl, hb3, hd3, hq3, hk3⟩
         have hK3 : Below w2.heap.size w2 w3 := Below.trans (by go_grown) (hk3.mono (by go_size))
         have hz3 := hK3.size
         have hs3 := hk3.size
         have hl3 := hb3.lt
         have HB3 := Lib.hid hb3
         have HQ3 := Lib.hid hq3
         clear hb3 hq3)
      | (go_at_call 23
         (with_reducible refine Calls.mono (bigInt_any w2.heap.size x1 (some a1) y _ ?_ HQ1.out) ?_)
         · exact HY2.out.below (by go_grown)
         rintro e w4 ⟨g4, rfl, hb4, hd4, hq4, hk4⟩
         have hK4 : Below w3.heap.size w3 w4 := Below.trans (by go_grown) (hk4.mono (by go_size))
         have hL4 : Below w2.heap.size w2 w4 := Below.trans hK3 (hK4.mono hz3)
         have hz4 := hL4.size
         have hs4 := hk4.size
         have hy4 := hK4.size
         have hl4 := hb4.lt
         have HB4 := Lib.hid hb4
         have HQ4 := Lib.hid hq4
         clear hb4 hq4)
      | (go_at_call 22
         (with_reducible refine Calls.mono (HC.out _ _ _ _ ?_ ?_ ?_ ?_ ?_ ?_ ?_) ?_)
         · first
             | exact Blk.new w4 _ _
             | exact (Blk.new w3 _ _).behind hk4
             | exact (Blk.new w3 _ _).behindD hk4
             | exact ((Blk.new w2 _ _).behindD hk3).behind hk4
             | exact ((Blk.new w2 _ _).behind hk3).behind hk4
             | exact ((Blk.new w2 _ _).behindD hk3).behindD hk4
         · exact HB3.out.below (by go_grown)
         · exact HB4.out.below (by go_grown)
         · simp only [World.size_alloc, World.size_drew] at hd3 hd4 hs3 hs4 ⊢; omega
         · simp only [World.size_alloc, World.size_drew] at hd3 hd4 hs3 hs4 ⊢; omega
         · rcases HQ3.out with e3 | e3
           · rcases HQ4.out with e4 | e4
             · exact HNE.out _ _ e3 e4
             · have := HQ0.out _ e3
               simp only [World.size_alloc, World.size_drew] at e4 hs3 hs4; omega
           · rcases HQ4.out with e4 | e4
             · have := HQ1.out _ e4
               simp only [World.size_alloc, World.size_drew] at e3 hs3 hs4; omega
             · simp only [World.size_alloc, World.size_drew] at e3 e4 hs3 hs4; omega
         · refine (Below.cell (p := ⟨2, 0, none⟩) (B := w.heap.size) (w := w) ?_ (block_lt_of_cell HGL.out)).trans HGL.out
           refine Below.trans HK2.out ((show Below w2.heap.size w2 _ by go_grown).mono HK2.out.size)
         rintro e w5 ⟨rfl, hb5, ho5⟩
         have hK5 : Below w2.heap.size w2 w5 := Below.grown (by go_grown) ho5 (by go_size) (fun k hk => by injection hk with hk; subst hk; go_size)
         have B5 : Hid (Blk w5 (w.heap.size + 1 + 1) 42 #[.int .i64 0, .pointer none]) := Lib.hid (B3.out.below hK5)
         have hz5 := hK5.size
         have HB5 := Lib.hid hb5.toBI
         clear hb5 ho5)
      | (go_at_call 20
         (with_reducible refine Calls.mono (MakeBigInt_any _ r hr _ HB5.out) ?_)
         rintro e w6 ⟨v6, rfl, hv6, hk6⟩
         have hK6 : Kept w2 w6 := Below.trans (by go_grown) (hk6.mono (by go_size))
         have B6 : Hid (Blk w6 (w.heap.size + 1 + 1) 42 #[.int .i64 0, .pointer none]) := Lib.hid (B5.out.below hk6)
         have HV6 := Lib.hid (hv6.mono (B' := w.heap.size + 1 + 1 + 1) (by go_size))
         obtain ⟨x6, p6, rfl⟩ := hv6.two
         clear hv6 hk6
         have hst := run_storeVar_row (P := Tryd.prog) w6 (w.heap.size + 1 + 1) 42 42 _ #[.int .i64 x6, .pointer p6] B6.out info_stI rfl (by simp [Value.oneCell'])
         simp [go_sem] at hst))
  all_goals
    go_wp2_with fail
    refine bodyPost_blk (cs := #[.int .i64 x6, .pointer p6]) rfl rfl (setRow_heap _ _ _ _ _ _ B6.out) Tryd.underlying42 rfl (by exact info_stI) rfl ?_
    exact ⟨_, rfl, (HV6.out.setRow (by omega)).mono (by omega), below_setRow (Below.trans HK2.out (hK6.mono HK2.out.size)) (by omega) _⟩
set_option maxRecDepth 100000 in
set_option maxHeartbeats 2000000 in
/-- where one of the two is great, the package's own operation is asked -/
theorem iMul_big0 (x0 x1 : Int) (a0 : Addr) (p1 : Option Addr) (x y r : Int) (hr : r.natAbs < Num.Cap) (w : World)
    (hx : StI w (.agg #[.int .i64 x0, .pointer (some a0)]) x) (hy : StI w (.agg #[.int .i64 x1, .pointer p1]) y)
    (hne : ∀ g h : Nat, ((some a0) : Option Addr) = some ⟨g, 0, none⟩ → (p1 : Option Addr) = some ⟨h, 0, none⟩ → g ≠ h) (hgl : w.cell? ⟨2, 0, none⟩ = some (.int .i64 40))
    (C : ∀ (g a b : Nat) (W : World), BI0 W g → BI W a x → BI W b y → g ≠ a → g ≠ b → a ≠ b → W.cell? ⟨2, 0, none⟩ = some (.int .i64 40) → Calls Tryd.prog 22 #[.pointer (some ⟨g, 0, none⟩), .pointer (some ⟨a, 0, none⟩), .pointer (some ⟨b, 0, none⟩)] W (RetPF W g r)) :
    Calls Tryd.prog 12 #[.agg #[.int .i64 x0, .pointer (some a0)], .agg #[.int .i64 x1, .pointer p1]] w (RetStI w r) := by
  have hp0 : ∀ g : Nat, ((some a0) : Option Addr) = some ⟨g, 0, none⟩ → g < w.heap.size := hx.lt
  have hp1 : ∀ g : Nat, (p1 : Option Addr) = some ⟨g, 0, none⟩ → g < w.heap.size := hy.lt
  have b1 : Blk (((w.alloc (.cells #[.int .i64 x0, .pointer (some a0)] 42)).alloc (.cells #[.int .i64 x1, .pointer p1] 42)).alloc (.cells #[.int .i64 0, .pointer none] 42)) w.heap.size 42 #[.int .i64 x0, .pointer (some a0)] :=
    ((Blk.new w _ _).below ((Below.refl _ _).alloc (Nat.le_refl _) _)).below ((Below.refl _ _).alloc (Nat.le_refl _) _)
  have b2 : Blk (((w.alloc (.cells #[.int .i64 x0, .pointer (some a0)] 42)).alloc (.cells #[.int .i64 x1, .pointer p1] 42)).alloc (.cells #[.int .i64 0, .pointer none] 42)) (w.heap.size + 1) 42 #[.int .i64 x1, .pointer p1] := by
    have := (Blk.new (w.alloc (.cells #[.int .i64 x0, .pointer (some a0)] 42)) 42 #[.int .i64 x1, .pointer p1]).below ((Below.refl _ _).alloc (Nat.le_refl _) (.cells #[.int .i64 0, .pointer none] 42))
    rwa [World.size_alloc] at this
  have b3 : Blk (((w.alloc (.cells #[.int .i64 x0, .pointer (some a0)] 42)).alloc (.cells #[.int .i64 x1, .pointer p1] 42)).alloc (.cells #[.int .i64 0, .pointer none] 42)) (w.heap.size + 1 + 1) 42 #[.int .i64 0, .pointer none] := by
    have := Blk.new ((w.alloc (.cells #[.int .i64 x0, .pointer (some a0)] 42)).alloc (.cells #[.int .i64 x1, .pointer p1] 42)) 42 #[.int .i64 0, .pointer none]
    rwa [World.size_alloc, World.size_alloc] at this
  have hk0 : Kept w (((w.alloc (.cells #[.int .i64 x0, .pointer (some a0)] 42)).alloc (.cells #[.int .i64 x1, .pointer p1] 42)).alloc (.cells #[.int .i64 0, .pointer none] 42)) := by go_grown
  have HC := Lib.hid C
  have HNE := Lib.hid hne
  have HGL := Lib.hid hgl
  clear hne hgl
  have HX := Lib.hid hx
  have HY := Lib.hid hy
  have HP0 := Lib.hid hp0
  have HP1 := Lib.hid hp1
  clear C hx hy hp0 hp1
  go_enter Tryd.func12, Tryd.ntmps12
  go_wp2_with fail
  generalize (((w.alloc (.cells #[.int .i64 x0, .pointer (some a0)] 42)).alloc (.cells #[.int .i64 x1, .pointer p1] 42)).alloc (.cells #[.int .i64 0, .pointer none] 42)) = W at *
  refine (get_any x0 (some a0) W).mono ?_
  rintro e w1 ⟨rfl, hk1⟩
  have b1' := b1.below hk1
  have b2' := b2.below hk1
  have b3' := b3.below hk1
  have hkk1 : Kept w w1 := Below.trans hk0 (hk1.mono hk0.size)
  clear b1 b2 b3 hk1 hk0
  have c2 := b2'.cell 0
  have c3 := b2'.cell 1
  simp only [List.getElem?_toArray, List.getElem?_cons_zero, List.getElem?_cons_succ] at c2 c3
  go_wp2_with fail
  refine (get_any x1 p1 w1).mono ?_
  rintro e w2 ⟨rfl, hk2⟩
  have B1 := Lib.hid (b1'.below hk2)
  have B2 := Lib.hid (b2'.below hk2)
  have B3 := Lib.hid (b3'.below hk2)
  have hkk2 : Kept w w2 := hkk1.trans hk2
  have HX2 := Lib.hid (HX.out.below hkk2)
  have HY2 := Lib.hid (HY.out.below hkk2)
  have HQ0 : Hid (∀ g : Nat, ((some a0) : Option Addr) = some ⟨g, 0, none⟩ → g < w2.heap.size) := Lib.hid fun g e => Nat.lt_of_lt_of_le (HP0.out g e) hkk2.size
  have HQ1 : Hid (∀ g : Nat, (p1 : Option Addr) = some ⟨g, 0, none⟩ → g < w2.heap.size) := Lib.hid fun g e => Nat.lt_of_lt_of_le (HP1.out g e) hkk2.size
  have HK2 := Lib.hid hkk2
  have l3 : w.heap.size + 1 + 1 < w2.heap.size := B3.out.lt
  clear b1' b2' b3' c2 c3 hk2 hkk1 HX HY HP0 HP1 hkk2
  have KEEP : Hid (∀ X : World, Kept w2 X → X.cell? ⟨w.heap.size, 0, none⟩ = some (.int .i64 x0) ∧ X.cell? ⟨w.heap.size, 1, none⟩ = some (.pointer (some a0)) ∧ X.cell? ⟨w.heap.size + 1, 0, none⟩ = some (.int .i64 x1) ∧ X.cell? ⟨w.heap.size + 1, 1, none⟩ = some (.pointer p1)) := Lib.hid fun X h =>
    ⟨(B1.out.below h).cell 0, (B1.out.below h).cell 1, (B2.out.below h).cell 0, (B2.out.below h).cell 1⟩
  have KEEP2 : Hid (∀ (X : World) (cs : Array Value), Kept w2 X → (X.setRow (w.heap.size + 1 + 1) cs).cell? ⟨w.heap.size, 0, none⟩ = some (.int .i64 x0) ∧ (X.setRow (w.heap.size + 1 + 1) cs).cell? ⟨w.heap.size, 1, none⟩ = some (.pointer (some a0)) ∧ (X.setRow (w.heap.size + 1 + 1) cs).cell? ⟨w.heap.size + 1, 0, none⟩ = some (.int .i64 x1) ∧ (X.setRow (w.heap.size + 1 + 1) cs).cell? ⟨w.heap.size + 1, 1, none⟩ = some (.pointer p1)) := Lib.hid fun X cs h =>
    ⟨(cell_setRow_other _ _ _ _ (by simp only; omega)).trans (KEEP.out X h).1, (cell_setRow_other _ _ _ _ (by simp only; omega)).trans (KEEP.out X h).2.1, (cell_setRow_other _ _ _ _ (by simp only; omega)).trans (KEEP.out X h).2.2.1, (cell_setRow_other _ _ _ _ (by simp only; omega)).trans (KEEP.out X h).2.2.2⟩
  go_wp2_with fail
  go_region_held3 (fun X : World => X.cell? ⟨w.heap.size, 0, none⟩ = some (.int .i64 x0) ∧ X.cell? ⟨w.heap.size, 1, none⟩ = some (.pointer (some a0)) ∧ X.cell? ⟨w.heap.size + 1, 0, none⟩ = some (.int .i64 x1) ∧ X.cell? ⟨w.heap.size + 1, 1, none⟩ = some (.pointer p1))
    (first
      | exact KEEP2.out _ _ hK6
      | exact KEEP.out _ (by go_grown))
    (first
      | (go_at_call 23
         (with_reducible refine Calls.mono (bigInt_any w2.heap.size x0 (some a0) x _ ?_ HQ0.out) ?_)
         · exact HX2.out.below (by go_grown)
         rintro e w3 ⟨g3, rfl, hb3, hd3, hq3, hk3⟩
         have hK3 : Below w2.heap.size w2 w3 := Below.trans (by go_grown) (hk3.mono (by go_size))
         have hz3 := hK3.size
         have hs3 := hk3.size
         have hl3 := hb3.lt
         have HB3 := Lib.hid hb3
         have HQ3 := Lib.hid hq3
         clear hb3 hq3)
      | (go_at_call 23
         (with_reducible refine Calls.mono (bigInt_any w2.heap.size x1 p1 y _ ?_ HQ1.out) ?_)
         · exact HY2.out.below (by go_grown)
         rintro e w4 ⟨g4, rfl, hb4, hd4, hq4, hk4⟩
         have hK4 : Below w3.heap.size w3 w4 := Below.trans (by go_grown) (hk4.mono (by go_size))
         have hL4 : Below w2.heap.size w2 w4 := Below.trans hK3 (hK4.mono hz3)
         have hz4 := hL4.size
         have hs4 := hk4.size
         have hy4 := hK4.size
         have hl4 := hb4.lt
         have HB4 := Lib.hid hb4
         have HQ4 := Lib.hid hq4
         clear hb4 hq4)
      | (go_at_call 22
         (with_reducible refine Calls.mono (HC.out _ _ _ _ ?_ ?_ ?_ ?_ ?_ ?_ ?_) ?_)
         · first
             | exact Blk.new w4 _ _
             | exact (Blk.new w3 _ _).behind hk4
             | exact (Blk.new w3 _ _).behindD hk4
             | exact ((Blk.new w2 _ _).behindD hk3).behind hk4
             | exact ((Blk.new w2 _ _).behind hk3).behind hk4
             | exact ((Blk.new w2 _ _).behindD hk3).behindD hk4
         · exact HB3.out.below (by go_grown)
         · exact HB4.out.below (by go_grown)
         · simp only [World.size_alloc, World.size_drew] at hd3 hd4 hs3 hs4 ⊢; omega
         · simp only [World.size_alloc, World.size_drew] at hd3 hd4 hs3 hs4 ⊢; omega
         · rcases HQ3.out with e3 | e3
           · rcases HQ4.out with e4 | e4
             · exact HNE.out _ _ e3 e4
             · have := HQ0.out _ e3
               simp only [World.size_alloc, World.size_drew] at e4 hs3 hs4; omega
           · rcases HQ4.out with e4 | e4
             · have := HQ1.out _ e4
               simp only [World.size_alloc, World.size_drew] at e3 hs3 hs4; omega
             · simp only [World.size_alloc, World.size_drew] at e3 e4 hs3 hs4; omega
         · refine (Below.cell (p := ⟨2, 0, none⟩) (B := w.heap.size) (w := w) ?_ (block_lt_of_cell HGL.out)).trans HGL.out
           refine Below.trans HK2.out ((show Below w2.heap.size w2 _ by go_grown).mono HK2.out.size)
         rintro e w5 ⟨rfl, hb5, ho5⟩
         have hK5 : Below w2.heap.size w2 w5 := Below.grown (by go_grown) ho5 (by go_size) (fun k hk => by injection hk with hk; subst hk; go_size)
         have B5 : Hid (Blk w5 (w.heap.size + 1 + 1) 42 #[.int .i64 0, .pointer none]) := Lib.hid (B3.out.below hK5)
         have hz5 := hK5.size
         have HB5 := Lib.hid hb5.toBI
         clear hb5 ho5)
      | (go_at_call 20
         (with_reducible refine Calls.mono (MakeBigInt_any _ r hr _ HB5.out) ?_)
         rintro e w6 ⟨v6, rfl, hv6, hk6⟩
         have hK6 : Kept w2 w6 := Below.trans (by go_grown) (hk6.mono (by go_size))
         have B6 : Hid (Blk w6 (w.heap.size + 1 + 1) 42 #[.int .i64 0, .pointer none]) := Lib.hid (B5.out.below hk6)
         have HV6 := Lib.hid (hv6.mono (B' := w.heap.size + 1 + 1 + 1) (by go_size))
         obtain ⟨x6, p6, rfl⟩ := hv6.two
         clear hv6 hk6
         have hst := run_storeVar_row (P := Tryd.prog) w6 (w.heap.size + 1 + 1) 42 42 _ #[.int .i64 x6, .pointer p6] B6.out info_stI rfl (by simp [Value.oneCell'])
         simp [go_sem] at hst))
  all_goals
    go_wp2_with fail
    refine bodyPost_blk (cs := #[.int .i64 x6, .pointer p6]) rfl rfl (setRow_heap _ _ _ _ _ _ B6.out) Tryd.underlying42 rfl (by exact info_stI) rfl ?_
    exact ⟨_, rfl, (HV6.out.setRow (by omega)).mono (by omega), below_setRow (Below.trans HK2.out (hK6.mono HK2.out.size)) (by omega) _⟩
set_option maxRecDepth 100000 in
set_option maxHeartbeats 1000000 in
theorem iMul_small (x y : Int) (hsx : Sm x = true) (hsy : Sm y = true) (w : World) :
    Calls Tryd.prog 12 #[.agg #[.int .i64 x, .pointer none], .agg #[.int .i64 y, .pointer none]] w (RetStI w (x * y)) := by
  have h1 := of_decide_eq_true (show decide (-2147483648 ≤ x ∧ x ≤ 2147483647) = true from hsx)
  have h2 := of_decide_eq_true (show decide (-2147483648 ≤ y ∧ y ≤ 2147483647) = true from hsy)
  have hn : (x * y).natAbs ≤ 2147483648 * 2147483648 := by
    rw [Int.natAbs_mul]
    exact Nat.mul_le_mul (by omega) (by omega)
  have hp : -9223372036854775808 ≤ x * y ∧ x * y ≤ 9223372036854775807 := by
    generalize x * y = z at *
    omega
  have b1 : Blk (((w.alloc (.cells #[.int .i64 x, .pointer none] 42)).alloc (.cells #[.int .i64 y, .pointer none] 42)).alloc (.cells #[.int .i64 0, .pointer none] 42)) w.heap.size 42 #[.int .i64 x, .pointer none] :=
    ((Blk.new w _ _).below ((Below.refl _ _).alloc (Nat.le_refl _) _)).below ((Below.refl _ _).alloc (Nat.le_refl _) _)
  have b2 : Blk (((w.alloc (.cells #[.int .i64 x, .pointer none] 42)).alloc (.cells #[.int .i64 y, .pointer none] 42)).alloc (.cells #[.int .i64 0, .pointer none] 42)) (w.heap.size + 1) 42 #[.int .i64 y, .pointer none] := by
    have := (Blk.new (w.alloc (.cells #[.int .i64 x, .pointer none] 42)) 42 #[.int .i64 y, .pointer none]).below ((Below.refl _ _).alloc (Nat.le_refl _) (.cells #[.int .i64 0, .pointer none] 42))
    rwa [World.size_alloc] at this
  have b3 : Blk (((w.alloc (.cells #[.int .i64 x, .pointer none] 42)).alloc (.cells #[.int .i64 y, .pointer none] 42)).alloc (.cells #[.int .i64 0, .pointer none] 42)) (w.heap.size + 1 + 1) 42 #[.int .i64 0, .pointer none] := by
    have := Blk.new ((w.alloc (.cells #[.int .i64 x, .pointer none] 42)).alloc (.cells #[.int .i64 y, .pointer none] 42)) 42 #[.int .i64 0, .pointer none]
    rwa [World.size_alloc, World.size_alloc] at this
  have hk0 : Kept w (((w.alloc (.cells #[.int .i64 x, .pointer none] 42)).alloc (.cells #[.int .i64 y, .pointer none] 42)).alloc (.cells #[.int .i64 0, .pointer none] 42)) := by go_grown
  obtain ⟨hp1, hp2⟩ := hp
  clear h1 h2 hsx hsy hn
  go_enter Tryd.func12, Tryd.ntmps12
  go_wp2_with fail
  generalize (((w.alloc (.cells #[.int .i64 x, .pointer none] 42)).alloc (.cells #[.int .i64 y, .pointer none] 42)).alloc (.cells #[.int .i64 0, .pointer none] 42)) = W at *
  refine (get_any x none W).mono ?_
  rintro e w1 ⟨rfl, hk1⟩
  have b2' := b2.below hk1
  have b3' := b3.below hk1
  have hkk1 : Kept w w1 := Below.trans hk0 (hk1.mono hk0.size)
  clear b1 b2 b3 hk1 hk0
  have c2 := b2'.cell 0
  have c3 := b2'.cell 1
  simp only [List.getElem?_toArray, List.getElem?_cons_zero, List.getElem?_cons_succ] at c2 c3
  go_wp2_with fail
  refine (get_any y none w1).mono ?_
  rintro e w2 ⟨rfl, hk2⟩
  have B3 := b3'.below hk2
  have hkk2 : Kept w w2 := hkk1.trans hk2
  clear b2' b3' c2 c3 hk2 hkk1
  go_wp2_with fail
  generalize x * y = z at *
  refine (MakeInt64_any z hp1 hp2 w2).mono ?_
  rintro e w3 ⟨v3, rfl, hv3, hk3⟩
  have B6 := Lib.hid (B3.below hk3)
  have HK6 : Hid (Kept w w3) := Lib.hid (hkk2.trans hk3)
  have l3 : w.heap.size + 1 + 1 < w2.heap.size := B3.lt
  have HV6 := Lib.hid (hv3.mono (B' := w.heap.size + 1 + 1 + 1) (by omega))
  obtain ⟨x6, p6, rfl⟩ := hv3.two
  have hst := run_storeVar_row (P := Tryd.prog) w3 (w.heap.size + 1 + 1) 42 42 _ #[.int .i64 x6, .pointer p6] B6.out info_stI rfl (by simp [Value.oneCell'])
  simp [go_sem] at hst
  clear B3 hk3 hkk2 hv3
  go_wp2_with fail
  refine bodyPost_blk (cs := #[.int .i64 x6, .pointer p6]) rfl rfl (setRow_heap _ _ _ _ _ _ B6.out) Tryd.underlying42 rfl (by exact info_stI) rfl ?_
  exact ⟨_, rfl, (HV6.out.setRow (by omega)).mono (by omega), below_setRow HK6.out (by omega) _⟩
theorem iMul_any (x0 x1 : Int) (p0 p1 : Option Addr) (x y : Int) (hX : x.natAbs < Num.B64 ^ 39) (hY : y.natAbs < Num.B64 ^ 39) (hr : (x * y).natAbs < Num.Cap) (w : World)
    (hx : StI w (.agg #[.int .i64 x0, .pointer p0]) x) (hy : StI w (.agg #[.int .i64 x1, .pointer p1]) y) (hne : ∀ g h : Nat, p0 = some ⟨g, 0, none⟩ → p1 = some ⟨h, 0, none⟩ → g ≠ h) (hgl : w.cell? ⟨2, 0, none⟩ = some (.int .i64 40)) :
    Calls Tryd.prog 12 #[.agg #[.int .i64 x0, .pointer p0], .agg #[.int .i64 x1, .pointer p1]] w (RetStI w (x * y)) := by
  have C : ∀ (g a b : Nat) (W : World), BI0 W g → BI W a x → BI W b y → g ≠ a → g ≠ b → a ≠ b → W.cell? ⟨2, 0, none⟩ = some (.int .i64 40) → Calls Tryd.prog 22 #[.pointer (some ⟨g, 0, none⟩), .pointer (some ⟨a, 0, none⟩), .pointer (some ⟨b, 0, none⟩)] W (RetPF W g (x * y)) :=
    fun g a b W h0 h1 h2 h3 h4 h5 h6 => bigMul_any g a b x y hX hY W h0 h1 h2 h3 h4 h5 h6
  cases p0 with
  | some a0 => exact iMul_big0 x0 x1 a0 p1 x y _ hr w hx hy hne hgl C
  | none =>
    cases p1 with
    | some a1 => exact iMul_big1 x0 x1 a1 x y _ hr w hx hy hne hgl C
    | none =>
      rcases hx with ⟨e, hs⟩ | ⟨g, e, _⟩
      · rcases hy with ⟨e', hs'⟩ | ⟨g, e', _⟩
        · injection e with e; injection e with e; injection e with e1 _; injection e1 with _ e1
          injection e' with e'; injection e' with e'; injection e' with e2 _; injection e2 with _ e2
          subst e1 e2
          exact iMul_small _ _ hs hs' w
        · injection e' with e'; injection e' with e'; injection e' with _ e'; injection e' with e' _; injection e' with e'; cases e'
      · injection e with e; injection e with e; injection e with _ e; injection e with e _; injection e with e; cases e
end Go.Proofs.YtikjdibngkcpkaaDoor
