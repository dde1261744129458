import Derived.Test.YtikjdibngkcpkaaNv
import Derived.Deep.RegionHeld3
namespace Go.Proofs.Ytikjdibngkcpkaa
open Go.ChangeShapes Go.WideShapes Go.ChangeAt Go.RowKit
set_option linter.unusedVariables false
/-- a pointer to an integer of the package, in a block below B or made by the call -/
def RetBig (B : Nat) (w : World) (z : Int) (e : Ending) (w' : World) : Prop := ∃ g, e = .returned (.pointer (some ⟨g, 0, none⟩)) ∧ BI w' g z ∧ (g < B ∨ w.heap.size ≤ g) ∧ Kept w w'
set_option maxRecDepth 100000 in
theorem bigInt_any (B : Nat) (x : Int) (p : Option Addr) (z : Int) (w : World) (hv : StI w (.agg #[.int .i64 x, .pointer p]) z) (hB : ∀ g, p = some ⟨g, 0, none⟩ → g < B) :
    Calls Try.prog 74 #[.agg #[.int .i64 x, .pointer p]] w (RetBig B w z) := by
  rcases hv with ⟨e, hs⟩ | ⟨g, e, hb, hs⟩
  · injection e with e; injection e with e; injection e with e1 e2; injection e2 with e2 _; injection e1 with _ e1; injection e2 with e2; subst e1 e2
    have HR := Lib.hid (of_decide_eq_true hs)
    clear hs hB
    go_enter Try.func74, Try.ntmps74
    go_wp2_with fail
    refine (get_any x none _).mono ?_
    rintro e w1 ⟨rfl, hk⟩
    have hk1 := (alloc_kept hk).1
    go_wp2_with fail
    refine (NewInt_any x HR.out.1 HR.out.2 w1).mono ?_
    rintro e w2 ⟨g, rfl, hb2, hg2, hk2⟩
    have HB := Lib.hid hb2
    clear hb2
    go_wp2_with fail
    go_ret
    exact ⟨g, rfl, HB.out.toBI, .inr (Nat.le_trans hk1.size hg2), hk1.trans hk2⟩
  · injection e with e; injection e with e; injection e with e1 e2; injection e2 with e2 _; injection e1 with _ e1; injection e2 with e2; subst e1 e2
    have HB := Lib.hid hb
    have HL := Lib.hid (hB g rfl)
    clear hb hs hB
    go_enter Try.func74, Try.ntmps74
    go_wp2_with fail
    refine (get_any 0 (some ⟨g, 0, none⟩) _).mono ?_
    rintro e w1 ⟨rfl, hk⟩
    have hk1 := (alloc_kept hk).1
    go_wp2_with fail
    go_ret
    exact ⟨g, rfl, HB.out.below hk1, .inl HL.out, hk1⟩
theorem StI.lt {w : World} {x z : Int} {p : Option Addr} (h : StI w (.agg #[.int .i64 x, .pointer p]) z) : ∀ g, p = some ⟨g, 0, none⟩ → g < w.heap.size := fun g e => by
  subst e; rcases h with ⟨e, _⟩ | ⟨g', e, hb, _⟩
  · injection e with e; injection e with e; injection e with _ e; injection e with e _; injection e with e; cases e
  · injection e with e; injection e with e; injection e with _ e; injection e with e _; injection e with e; injection e with e; injection e with e; subst e; exact hb.lt
theorem Blk.behind {w w' : World} {g : Nat} {t : TypeId} {cs : Array Value} (h : Blk w g t cs) (hb : Kept w w') : Blk w' g t cs := h.below hb
theorem Blk.behindD {w w' : World} {g : Nat} {t : TypeId} {cs : Array Value} (h : Blk w g t cs) (hb : Kept w.drew w') : Blk w' g t cs := Blk.below (w := w.drew) h hb
set_option maxRecDepth 100000 in
set_option maxHeartbeats 2000000 in
/-- where one of the two is great, the package's own operation is asked -/
theorem iOr_big1 (x0 x1 : Int) (a1 : Addr) (x y r : Int) (hr : r.natAbs < Num.Cap) (w : World)
    (hx : StI w (.agg #[.int .i64 x0, .pointer none]) x) (hy : StI w (.agg #[.int .i64 x1, .pointer (some a1)]) y)
    (C : ∀ (g a b : Nat) (W : World), BI0 W g → BI W a x → BI W b y → g ≠ a → g ≠ b → Calls Try.prog 78 #[.pointer (some ⟨g, 0, none⟩), .pointer (some ⟨a, 0, none⟩), .pointer (some ⟨b, 0, none⟩)] W (RetPF W g r)) :
    Calls Try.prog 47 #[.agg #[.int .i64 x0, .pointer none], .agg #[.int .i64 x1, .pointer (some a1)]] w (RetStI w r) := by
  have hp0 : ∀ g : Nat, (none : Option Addr) = some ⟨g, 0, none⟩ → g < w.heap.size := hx.lt
  have hp1 : ∀ g : Nat, ((some a1) : Option Addr) = some ⟨g, 0, none⟩ → g < w.heap.size := hy.lt
  have b1 : Blk (((w.alloc (.cells #[.int .i64 x0, .pointer none] 71)).alloc (.cells #[.int .i64 x1, .pointer (some a1)] 71)).alloc (.cells #[.int .i64 0, .pointer none] 71)) w.heap.size 71 #[.int .i64 x0, .pointer none] :=
    ((Blk.new w _ _).below ((Below.refl _ _).alloc (Nat.le_refl _) _)).below ((Below.refl _ _).alloc (Nat.le_refl _) _)
  have b2 : Blk (((w.alloc (.cells #[.int .i64 x0, .pointer none] 71)).alloc (.cells #[.int .i64 x1, .pointer (some a1)] 71)).alloc (.cells #[.int .i64 0, .pointer none] 71)) (w.heap.size + 1) 71 #[.int .i64 x1, .pointer (some a1)] := by
    have := (Blk.new (w.alloc (.cells #[.int .i64 x0, .pointer none] 71)) 71 #[.int .i64 x1, .pointer (some a1)]).below ((Below.refl _ _).alloc (Nat.le_refl _) (.cells #[.int .i64 0, .pointer none] 71))
    rwa [World.size_alloc] at this
  have b3 : Blk (((w.alloc (.cells #[.int .i64 x0, .pointer none] 71)).alloc (.cells #[.int .i64 x1, .pointer (some a1)] 71)).alloc (.cells #[.int .i64 0, .pointer none] 71)) (w.heap.size + 1 + 1) 71 #[.int .i64 0, .pointer none] := by
    have := Blk.new ((w.alloc (.cells #[.int .i64 x0, .pointer none] 71)).alloc (.cells #[.int .i64 x1, .pointer (some a1)] 71)) 71 #[.int .i64 0, .pointer none]
    rwa [World.size_alloc, World.size_alloc] at this
  have hk0 : Kept w (((w.alloc (.cells #[.int .i64 x0, .pointer none] 71)).alloc (.cells #[.int .i64 x1, .pointer (some a1)] 71)).alloc (.cells #[.int .i64 0, .pointer none] 71)) := by go_grown
  have HC := Lib.hid C
  have HX := Lib.hid hx
  have HY := Lib.hid hy
  have HP0 := Lib.hid hp0
  have HP1 := Lib.hid hp1
  clear C hx hy hp0 hp1
  go_enter Try.func47, Try.ntmps47
  go_wp2_with fail
  generalize (((w.alloc (.cells #[.int .i64 x0, .pointer none] 71)).alloc (.cells #[.int .i64 x1, .pointer (some a1)] 71)).alloc (.cells #[.int .i64 0, .pointer none] 71)) = W at *
  refine (get_any x0 none W).mono ?_
  rintro e w1 ⟨rfl, hk1⟩
  have b1' := b1.below hk1
  have b2' := b2.below hk1
  have b3' := b3.below hk1
  have hkk1 : Kept w w1 := Below.trans hk0 (hk1.mono hk0.size)
  clear b1 b2 b3 hk1 hk0
  have c2 := b2'.cell 0
  have c3 := b2'.cell 1
  simp only [List.getElem?_toArray, List.getElem?_cons_zero, List.getElem?_cons_succ] at c2 c3
  go_wp2_with fail
  refine (get_any x1 (some a1) w1).mono ?_
  rintro e w2 ⟨rfl, hk2⟩
  have B1 := Lib.hid (b1'.below hk2)
  have B2 := Lib.hid (b2'.below hk2)
  have B3 := Lib.hid (b3'.below hk2)
  have hkk2 : Kept w w2 := hkk1.trans hk2
  have HX2 := Lib.hid (HX.out.below hkk2)
  have HY2 := Lib.hid (HY.out.below hkk2)
  have HQ0 : Hid (∀ g : Nat, (none : Option Addr) = some ⟨g, 0, none⟩ → g < w2.heap.size) := Lib.hid fun g e => Nat.lt_of_lt_of_le (HP0.out g e) hkk2.size
  have HQ1 : Hid (∀ g : Nat, ((some a1) : Option Addr) = some ⟨g, 0, none⟩ → g < w2.heap.size) := Lib.hid fun g e => Nat.lt_of_lt_of_le (HP1.out g e) hkk2.size
  have HK2 := Lib.hid hkk2
  have l3 : w.heap.size + 1 + 1 < w2.heap.size := B3.out.lt
  clear b1' b2' b3' c2 c3 hk2 hkk1 HX HY HP0 HP1 hkk2
  have KEEP : Hid (∀ X : World, Kept w2 X → X.cell? ⟨w.heap.size, 0, none⟩ = some (.int .i64 x0) ∧ X.cell? ⟨w.heap.size, 1, none⟩ = some (.pointer none) ∧ X.cell? ⟨w.heap.size + 1, 0, none⟩ = some (.int .i64 x1) ∧ X.cell? ⟨w.heap.size + 1, 1, none⟩ = some (.pointer (some a1))) := Lib.hid fun X h =>
    ⟨(B1.out.below h).cell 0, (B1.out.below h).cell 1, (B2.out.below h).cell 0, (B2.out.below h).cell 1⟩
  have KEEP2 : Hid (∀ (X : World) (cs : Array Value), Kept w2 X → (X.setRow (w.heap.size + 1 + 1) cs).cell? ⟨w.heap.size, 0, none⟩ = some (.int .i64 x0) ∧ (X.setRow (w.heap.size + 1 + 1) cs).cell? ⟨w.heap.size, 1, none⟩ = some (.pointer none) ∧ (X.setRow (w.heap.size + 1 + 1) cs).cell? ⟨w.heap.size + 1, 0, none⟩ = some (.int .i64 x1) ∧ (X.setRow (w.heap.size + 1 + 1) cs).cell? ⟨w.heap.size + 1, 1, none⟩ = some (.pointer (some a1))) := Lib.hid fun X cs h =>
    ⟨(cell_setRow_other _ _ _ _ (by simp only; omega)).trans (KEEP.out X h).1, (cell_setRow_other _ _ _ _ (by simp only; omega)).trans (KEEP.out X h).2.1, (cell_setRow_other _ _ _ _ (by simp only; omega)).trans (KEEP.out X h).2.2.1, (cell_setRow_other _ _ _ _ (by simp only; omega)).trans (KEEP.out X h).2.2.2⟩
  go_wp2_with fail
  go_region_held3 (fun X : World => X.cell? ⟨w.heap.size, 0, none⟩ = some (.int .i64 x0) ∧ X.cell? ⟨w.heap.size, 1, none⟩ = some (.pointer none) ∧ X.cell? ⟨w.heap.size + 1, 0, none⟩ = some (.int .i64 x1) ∧ X.cell? ⟨w.heap.size + 1, 1, none⟩ = some (.pointer (some a1)))
    (first
      | exact KEEP2.out _ _ hK6
      | exact KEEP.out _ (by go_grown))
    (first
      | (go_at_call 74
         (with_reducible refine Calls.mono (bigInt_any w2.heap.size x0 none x _ ?_ HQ0.out) ?_)
         · exact HX2.out.below (by go_grown)
         rintro e w3 ⟨g3, rfl, hb3, hd3, hk3⟩
         have hK3 : Below w2.heap.size w2 w3 := Below.trans (by go_grown) (hk3.mono (by go_size))
         have hz3 := hK3.size
         have hs3 := hk3.size
         have hl3 := hb3.lt
         have HB3 := Lib.hid hb3
         clear hb3)
      | (go_at_call 74
         (with_reducible refine Calls.mono (bigInt_any w2.heap.size x1 (some a1) y _ ?_ HQ1.out) ?_)
         · exact HY2.out.below (by go_grown)
         rintro e w4 ⟨g4, rfl, hb4, hd4, hk4⟩
         have hK4 : Below w3.heap.size w3 w4 := Below.trans (by go_grown) (hk4.mono (by go_size))
         have hL4 : Below w2.heap.size w2 w4 := Below.trans hK3 (hK4.mono hz3)
         have hz4 := hL4.size
         have hs4 := hk4.size
         have hy4 := hK4.size
         have hl4 := hb4.lt
         have HB4 := Lib.hid hb4
         clear hb4)
      | (go_at_call 78
         (with_reducible refine Calls.mono (HC.out _ _ _ _ ?_ ?_ ?_ ?_ ?_) ?_)
         · first
             | exact Blk.new w4 _ _
             | exact (Blk.new w3 _ _).behind hk4
             | exact (Blk.new w3 _ _).behindD hk4
             | exact ((Blk.new w2 _ _).behindD hk3).behind hk4
             | exact ((Blk.new w2 _ _).behind hk3).behind hk4
             | exact ((Blk.new w2 _ _).behindD hk3).behindD hk4
         · exact HB3.out.below (by go_grown)
         · exact HB4.out.below (by go_grown)
         · simp only [World.size_alloc, World.size_drew] at hd3 hd4 hs3 hs4 ⊢; omega
         · simp only [World.size_alloc, World.size_drew] at hd3 hd4 hs3 hs4 ⊢; omega
         rintro e w5 ⟨rfl, hb5, ho5⟩
         have hK5 : Below w2.heap.size w2 w5 := Below.grown (by go_grown) ho5 (by go_size) (fun k hk => by injection hk with hk; subst hk; go_size)
         have B5 : Hid (Blk w5 (w.heap.size + 1 + 1) 71 #[.int .i64 0, .pointer none]) := Lib.hid (B3.out.below hK5)
         have hz5 := hK5.size
         have HB5 := Lib.hid hb5.toBI
         clear hb5 ho5)
      | (go_at_call 61
         (with_reducible refine Calls.mono (MakeBigInt_any _ r hr _ HB5.out) ?_)
         rintro e w6 ⟨v6, rfl, hv6, hk6⟩
         have hK6 : Kept w2 w6 := Below.trans (by go_grown) (hk6.mono (by go_size))
         have B6 : Hid (Blk w6 (w.heap.size + 1 + 1) 71 #[.int .i64 0, .pointer none]) := Lib.hid (B5.out.below hk6)
         have HV6 := Lib.hid (hv6.mono (B' := w.heap.size + 1 + 1 + 1) (by go_size))
         obtain ⟨x6, p6, rfl⟩ := hv6.two
         clear hv6 hk6
         have hst := run_storeVar_row (P := Try.prog) w6 (w.heap.size + 1 + 1) 71 71 _ #[.int .i64 x6, .pointer p6] B6.out info_stI rfl (by simp [Value.oneCell'])
         simp [go_sem] at hst))
  all_goals
    go_wp2_with fail
    refine bodyPost_blk (cs := #[.int .i64 x6, .pointer p6]) rfl rfl (setRow_heap _ _ _ _ _ _ B6.out) Try.underlying71 rfl (by exact info_stI) rfl ?_
    exact ⟨_, rfl, (HV6.out.setRow (by omega)).mono (by omega), below_setRow (Below.trans HK2.out (hK6.mono HK2.out.size)) (by omega) _⟩
end Go.Proofs.Ytikjdibngkcpkaa
