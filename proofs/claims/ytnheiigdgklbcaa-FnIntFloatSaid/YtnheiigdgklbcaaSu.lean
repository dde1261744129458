/- The reference's division to the floor. -/
import Derived.Test.YtnheiigdgklbcaaSq
import Derived.Test.YtnheiigdgklbcaaSd
namespace Go.Proofs.Ytnheiigdgklbcaa
open Go.ChangeShapes Go.WideShapes Go.ChangeAt Go.RowKit
set_option linter.unusedVariables false
theorem Blk.far2 {w : World} {g : Nat} {t : TypeId} {cs : Array Value} (h : Blk w g t cs) {k i : Nat} (hk : g ≠ k) (u : Value) : Blk (w.setCell ⟨k, i, none⟩ u) g t cs := Blk.far h hk u
theorem beN_zeros (q : Nat) : beN (List.replicate q 0) = 0 := by
  unfold beN
  rw [List.reverse_replicate, Num.le_replicate]
theorem pow2_split (q r : Nat) : 256 ^ q * 2 ^ r = 2 ^ (8 * q + r) := by rw [pow8, ← Nat.pow_add]
set_option maxRecDepth 100000 in
set_option maxHeartbeats 1000000 in
theorem Power_any (q r : Nat) (hq : q ≤ 10000) (hr : r < 8) (w : World) :
    Calls Try.prog 18 #[.int .i64 (8 * (q : Int) + (r : Int))] w (RetSI w ((2 ^ (8 * q + r) : Nat) : Int)) := by
  have hmk := fun W => run_make_row' (P := Try.prog) 22 5 (.int .u8 0) 1 Try.underlying22 info8 rfl .i64 .i64 (q + 1) (by omega) (by omega) W
  have eN : ((q + 1 : Nat) : Int) = (q : Int) + 1 := by omega
  simp only [eN] at hmk
  have hd8 : (8 * (q : Int) + (r : Int)) / 8 = (q : Int) := (cast8 q r hr).2.1
  have hm8 : (8 * (q : Int) + (r : Int)) % 8 = (r : Int) := (cast8 q r hr).2.2
  have hrI : (r : Int) < 8 := by omega
  have hwr : IntKind.u64.wrap (r : Int) = (r : Int) := by rw [IntKind.wrap_u64]; omega
  have hpu := pow_u8 r hr
  have hnn : (0 : Int) ≤ 8 * (q : Int) + (r : Int) := by omega
  have hk0 : Kept w ((w.alloc (.cells #[.bool false, .slice none 0 0] 24)).alloc (.cells (madeCells #[Value.int .u8 0] (q + 1)) 5)) := by go_grown
  have b1 : Blk ((w.alloc (.cells #[.bool false, .slice none 0 0] 24)).alloc (.cells (madeCells #[Value.int .u8 0] (q + 1)) 5)) w.heap.size 24 #[.bool false, .slice none 0 0] := (Blk.new w _ _).below ((Below.refl _ _).alloc (Nat.le_refl _) _)
  have hr0 : ((w.alloc (.cells #[.bool false, .slice none 0 0] 24)).alloc (.cells (madeCells #[Value.int .u8 0] (q + 1)) 5)).rowIs (w.heap.size + 1) 5 (q + 1) (fun _ => .int .u8 0) := by
    have := World.rowIs_made (w.alloc (.cells #[.bool false, .slice none 0 0] 24)) (.int .u8 0) (q + 1) 5
    rwa [World.size_alloc] at this
  have h2r : 2 ^ r < 256 := by have := Nat.pow_le_pow_right (show 0 < 2 by omega) (show r ≤ 7 by omega); omega
  have hcl := hr0.cell (i := 0) (by omega)
  have hfr := hr0.frozen 0
  have hset := hr0.set 0 (.int .u8 ((2 ^ r : Nat) : Int))
  have hSl : Sl (((w.alloc (.cells #[.bool false, .slice none 0 0] 24)).alloc (.cells (madeCells #[Value.int .u8 0] (q + 1)) 5)).setCell ⟨w.heap.size + 1, 0, none⟩ (.int .u8 ((2 ^ r : Nat) : Int))) (some ⟨w.heap.size + 1, 0, none⟩) (q + 1) (by8 (2 ^ r :: List.replicate q 0)) := by
    refine Sl_of_row hset (fun j u hu => ?_) (by rw [by8_len]; simp) (by unfold maxLen; omega)
    cases j with
    | zero => simp [by8] at hu; rw [if_pos rfl, ← hu]; simp
    | succ j =>
      rw [if_neg (by omega)]
      simp only [by8, List.map_cons, List.getElem?_cons_succ, List.map_replicate, List.getElem?_replicate] at hu
      split at hu
      · injection hu
      · cases hu
  have hval : Num.le 256 (2 ^ r :: List.replicate q 0).reverse = 2 ^ (8 * q + r) := by
    have h1 := beN_cons (2 ^ r) (List.replicate q 0)
    rw [beN_zeros, Nat.zero_add, List.length_replicate, pow2_split] at h1
    exact h1
  have hof := Of_any false (some ⟨w.heap.size + 1, 0, none⟩) (q + 1) (2 ^ r :: List.replicate q 0) (by simp; omega) (fun d hd => by
    rcases List.mem_cons.1 hd with rfl | hd
    · exact h2r
    · have := List.eq_of_mem_replicate hd; omega) _ hSl
  rw [hval] at hof
  have hlen : (2 ^ r :: List.replicate q 0).length = q + 1 := by simp
  rw [hlen] at hof
  have hsg : sgn false (2 ^ (8 * q + r)) = ((2 ^ (8 * q + r) : Nat) : Int) := rfl
  rw [hsg] at hof
  have hb2 : Blk (((w.alloc (.cells #[.bool false, .slice none 0 0] 24)).alloc (.cells (madeCells #[Value.int .u8 0] (q + 1)) 5)).setCell ⟨w.heap.size + 1, 0, none⟩ (.int .u8 ((2 ^ r : Nat) : Int))) w.heap.size 24 #[.bool false, .slice none 0 0] := Blk.far b1 (by omega) _
  have hk2 : Kept w (((w.alloc (.cells #[.bool false, .slice none 0 0] 24)).alloc (.cells (madeCells #[Value.int .u8 0] (q + 1)) 5)).setCell ⟨w.heap.size + 1, 0, none⟩ (.int .u8 ((2 ^ r : Nat) : Int))) := hk0.setCell (by show w.heap.size ≤ w.heap.size + 1; omega) _
  have hsc : ((w.alloc (.cells #[.bool false, .slice none 0 0] 24)).alloc (.cells (madeCells #[Value.int .u8 0] (q + 1)) 5)).setCell ⟨w.heap.size + 1, 0, none⟩ (.int .u8 ((2 ^ r : Nat) : Int)) = (w.alloc (.cells #[.bool false, .slice none 0 0] 24)).alloc (.cells ((madeCells #[Value.int .u8 0] (q + 1)).setIfInBounds 0 (.int .u8 ((2 ^ r : Nat) : Int))) 5) :=
    World.setCell_alloc_at _ _ _ _ _ (by rw [World.size_alloc])
  rw [hsc] at hof hb2 hk2
  have HOF := Lib.hid hof
  have HB2 := Lib.hid hb2
  have HK2 := Lib.hid hk2
  have HRr : Hid (((2 ^ (8 * q + r) : Nat) : Int) = ((2 ^ (8 * q + r) : Nat) : Int)) := Lib.hid rfl
  clear eN hr0 hset hSl hval hof hlen hsg hb2 hk2 hk0 b1 hr hsc
  generalize hP : ((2 ^ (8 * q + r) : Nat) : Int) = P at *
  generalize hp : 2 ^ r = pp at *
  go_enter Try.func18, Try.ntmps18
  go_wp2_with fail
  generalize ((w.alloc (.cells #[.bool false, .slice none 0 0] 24)).alloc (.cells ((madeCells #[Value.int .u8 0] (q + 1)).setIfInBounds 0 (.int .u8 (pp : Int))) 5)) = W at *
  have hsW := HK2.out.size
  have hlW := HB2.out.lt
  refine (HOF.out).mono ?_
  rintro e w3 ⟨v3, rfl, hv3, hk3⟩
  have H := Lib.hid (HB2.out.below hk3)
  have HV3 := Lib.hid hv3
  obtain ⟨b3, A3, n3, c3, rfl⟩ := hv3.two
  have HK3 : Hid (Kept w w3) := Lib.hid (HK2.out.trans hk3)
  clear hv3 hk3
  go_wp2_with (refine wpList_store_row rfl 24 (.tmp 2) (.tmp 15) rfl w.heap.size _ rfl rfl 24 _ H.out info_SI rfl (by simp [Value.oneCell']) ?_)
  refine bodyPost_blk (cs := #[.bool b3, .slice A3 n3 c3]) rfl rfl (setRow_heap _ _ _ _ _ _ H.out) Try.underlying24 rfl (by exact info_SI) rfl ?_
  exact ⟨_, rfl, (HV3.out.setRow (by omega) _).mono (by omega), below_setRow HK3.out (Nat.le_refl _) _⟩
theorem floor_pos (x y : Int) (hx : ¬ x < 0) (hy : 0 < y) : x / y = ((x.natAbs / y.natAbs : Nat) : Int) := by
  have h1 : x = (x.natAbs : Int) := by omega
  have h2 : y = (y.natAbs : Int) := by omega
  conv => lhs; rw [h1, h2]
  exact (Int.natCast_ediv ..).symm
theorem floor_neg (x y : Int) (hx : x < 0) (hy : 0 < y) : x / y = if x.natAbs % y.natAbs = 0 then -((x.natAbs / y.natAbs : Nat) : Int) else -((x.natAbs / y.natAbs + 1 : Nat) : Int) := by
  have h1 : x = -(x.natAbs : Int) := by omega
  have h2 : y = (y.natAbs : Int) := by omega
  generalize x.natAbs = X at *
  generalize y.natAbs = Y at *
  subst h1 h2
  have hY : 0 < Y := by omega
  have hd := Nat.div_add_mod X Y
  have hm := Nat.mod_lt X hY
  generalize X / Y = q at *
  generalize X % Y = r at *
  have hdI : (X : Int) = (Y : Int) * (q : Int) + (r : Int) := by rw [← hd]; push_cast; rfl
  split
  · rename_i h0
    subst h0
    rw [hdI, Int.natCast_zero, Int.add_zero, ← Int.mul_neg, Int.mul_ediv_cancel_left _ (by omega)]
  · have e : -(X : Int) = ((Y - r : Nat) : Int) + (Y : Int) * (-((q + 1 : Nat) : Int)) := by
      rw [hdI, Int.mul_neg, Int.natCast_add, Int.mul_add]
      have : ((Y - r : Nat) : Int) = (Y : Int) - (r : Int) := by omega
      rw [this]
      simp only [Int.natCast_one, Int.mul_one]
      omega
    rw [e, Int.add_mul_ediv_left _ _ (by omega), Int.ediv_eq_zero_of_lt (by omega) (by omega), Int.zero_add]
/-- the quotient to the floor, and something beside it -/
def RetFloor (w : World) (q : Int) (e : Ending) (w' : World) : Prop := ∃ v1 b A n c, e = .returned (.tuple #[v1, .agg #[.bool b, .slice A n c]]) ∧ SIf w.heap.size w' v1 q ∧ Kept w w'
theorem mag_len {l : List Nat} {N : Nat} (h : BE l N) (hN : N < Num.Cap) : l.length ≤ 2147483647 := by have := h.len hN; omega
set_option maxRecDepth 100000 in
set_option maxHeartbeats 4000000 in
theorem sFloor_any (bx : Bool) (Ax : Option Addr) (nx cx : Nat) (x : Int) (yb : Bool) (Ay : Option Addr) (ny cy : Nat) (y : Int) (hxc : x.natAbs < Num.Cap) (hy0 : 0 < y) (hyc : 2 * y.natAbs < Num.Cap) (w : World) (hx : SI w (.agg #[.bool bx, .slice Ax nx cx]) x) (hy : SI w (.agg #[.bool yb, .slice Ay ny cy]) y) :
    Calls Try.prog 38 #[.agg #[.bool bx, .slice Ax nx cx], .agg #[.bool yb, .slice Ay ny cy]] w (RetFloor w (x / y)) := by
  obtain ⟨hbx, lx, rfl, sx, ux⟩ := hx.parts
  obtain ⟨hby, ly, rfl, sy, uy⟩ := hy.parts
  have hyb : yb = false := by rw [hby]; exact decide_eq_false (by omega)
  subst hyb
  have hlx := ux.len hxc
  have hly := uy.len (by omega)
  have hk0 : Kept w ((((w.alloc (.cells #[.bool bx, .slice Ax lx.length cx] 24)).alloc (.cells #[.bool false, .slice Ay ly.length cy] 24)).alloc (.cells #[.bool false, .slice none 0 0] 24)).alloc (.cells #[.bool false, .slice none 0 0] 24)) := by go_grown
  have b1 : Blk ((((w.alloc (.cells #[.bool bx, .slice Ax lx.length cx] 24)).alloc (.cells #[.bool false, .slice Ay ly.length cy] 24)).alloc (.cells #[.bool false, .slice none 0 0] 24)).alloc (.cells #[.bool false, .slice none 0 0] 24)) w.heap.size 24 #[.bool bx, .slice Ax lx.length cx] :=
    (((Blk.new w _ _).below ((Below.refl _ _).alloc (Nat.le_refl _) _)).below ((Below.refl _ _).alloc (Nat.le_refl _) _)).below ((Below.refl _ _).alloc (Nat.le_refl _) _)
  have b2 : Blk ((((w.alloc (.cells #[.bool bx, .slice Ax lx.length cx] 24)).alloc (.cells #[.bool false, .slice Ay ly.length cy] 24)).alloc (.cells #[.bool false, .slice none 0 0] 24)).alloc (.cells #[.bool false, .slice none 0 0] 24)) (w.heap.size + 1) 24 #[.bool false, .slice Ay ly.length cy] := by
    have := ((Blk.new (w.alloc (.cells #[.bool bx, .slice Ax lx.length cx] 24)) 24 #[.bool false, .slice Ay ly.length cy]).below ((Below.refl _ _).alloc (Nat.le_refl _) (.cells #[.bool false, .slice none 0 0] 24))).below ((Below.refl _ _).alloc (Nat.le_refl _) (.cells #[.bool false, .slice none 0 0] 24))
    rwa [World.size_alloc] at this
  have b3 : Blk ((((w.alloc (.cells #[.bool bx, .slice Ax lx.length cx] 24)).alloc (.cells #[.bool false, .slice Ay ly.length cy] 24)).alloc (.cells #[.bool false, .slice none 0 0] 24)).alloc (.cells #[.bool false, .slice none 0 0] 24)) (w.heap.size + 1 + 1) 24 #[.bool false, .slice none 0 0] := by
    have := (Blk.new ((w.alloc (.cells #[.bool bx, .slice Ax lx.length cx] 24)).alloc (.cells #[.bool false, .slice Ay ly.length cy] 24)) 24 #[.bool false, .slice none 0 0]).below ((Below.refl _ _).alloc (Nat.le_refl _) (.cells #[.bool false, .slice none 0 0] 24))
    rwa [World.size_alloc, World.size_alloc] at this
  have b4 : Blk ((((w.alloc (.cells #[.bool bx, .slice Ax lx.length cx] 24)).alloc (.cells #[.bool false, .slice Ay ly.length cy] 24)).alloc (.cells #[.bool false, .slice none 0 0] 24)).alloc (.cells #[.bool false, .slice none 0 0] 24)) (w.heap.size + 1 + 1 + 1) 24 #[.bool false, .slice none 0 0] := by
    have := Blk.new (((w.alloc (.cells #[.bool bx, .slice Ax lx.length cx] 24)).alloc (.cells #[.bool false, .slice Ay ly.length cy] 24)).alloc (.cells #[.bool false, .slice none 0 0] 24)) 24 #[.bool false, .slice none 0 0]
    rwa [World.size_alloc, World.size_alloc, World.size_alloc] at this
  have HSP := Lib.hid (split_any Ax Ay cx cy lx ly _ _ ux hxc uy (by omega) hyc _ (sx.below hk0) (sy.below hk0))
  have HY := Lib.hid (And.intro (sy.below hk0) uy)
  have HYC : Hid (y.natAbs < Num.Cap ∧ 0 < y ∧ x.natAbs < Num.Cap) := Lib.hid ⟨by omega, hy0, hxc⟩
  have HBX := Lib.hid hbx
  clear sx sy ux uy hx hy hxc hyc hy0 hbx hby hlx hly
  go_enter Try.func38, Try.ntmps38
  go_wp2_with fail
  generalize ((((w.alloc (.cells #[.bool bx, .slice Ax lx.length cx] 24)).alloc (.cells #[.bool false, .slice Ay ly.length cy] 24)).alloc (.cells #[.bool false, .slice none 0 0] 24)).alloc (.cells #[.bool false, .slice none 0 0] 24)) = W at *
  refine (HSP.out).mono ?_
  rintro e w1 ⟨A1, c1, l1, A2, c2, l2, rfl, ⟨q1, q2, q3⟩, ⟨r1, r2, r3⟩, hk1⟩
  have hkw : Kept w w1 := Below.trans hk0 (hk1.mono hk0.size)
  have HQ : Hid (Sl w1 A1 c1 (by8 l1) ∧ BE l1 (x.natAbs / y.natAbs)) := Lib.hid ⟨q1, q2⟩
  have HR : Hid (Sl w1 A2 c2 (by8 l2) ∧ BE l2 (x.natAbs % y.natAbs)) := Lib.hid ⟨r1, r2⟩
  have HYS : Hid (Sl w1 Ay cy (by8 ly) ∧ BE ly y.natAbs) := Lib.hid ⟨HY.out.1.below hk1, HY.out.2⟩
  have B3 := Lib.hid (b3.below hk1)
  have B4 := Lib.hid (b4.below hk1)
  have d1 : w1.cell? ⟨w.heap.size, 0, none⟩ = some (.bool bx) := (b1.below hk1).cell 0
  have d2 : w1.cell? ⟨w.heap.size + 1, 0, none⟩ = some (.bool false) := (b2.below hk1).cell 0
  have d3 : w1.cell? ⟨w.heap.size + 1, 1, none⟩ = some (.slice Ay ly.length cy) := (b2.below hk1).cell 1
  have l1' : w.heap.size + 1 < w1.heap.size := (b2.below hk1).lt
  have l4 : w.heap.size + 1 + 1 + 1 < w1.heap.size := B4.out.lt
  have HKW := Lib.hid hkw
  have KEEP : Hid (∀ X : World, Kept w1 X → X.cell? ⟨w.heap.size + 1, 0, none⟩ = some (.bool false) ∧ X.cell? ⟨w.heap.size + 1, 1, none⟩ = some (.slice Ay ly.length cy)) := Lib.hid fun X h => ⟨(h.cell l1').trans d2, (h.cell l1').trans d3⟩
  have KEEP1 : Hid (∀ (X : World) (cs : Array Value), Kept w1 X → (X.setRow (w.heap.size + 1 + 1) cs).cell? ⟨w.heap.size + 1, 0, none⟩ = some (.bool false) ∧ (X.setRow (w.heap.size + 1 + 1) cs).cell? ⟨w.heap.size + 1, 1, none⟩ = some (.slice Ay ly.length cy)) := Lib.hid fun X cs h =>
    ⟨(cell_setRow_other _ _ _ _ (by simp only; omega)).trans (KEEP.out X h).1, (cell_setRow_other _ _ _ _ (by simp only; omega)).trans (KEEP.out X h).2⟩
  have KEEP2 : Hid (∀ (X : World) (cs cs' : Array Value), Kept w1 X → ((X.setRow (w.heap.size + 1 + 1) cs).setRow (w.heap.size + 1 + 1 + 1) cs').cell? ⟨w.heap.size + 1, 0, none⟩ = some (.bool false) ∧ ((X.setRow (w.heap.size + 1 + 1) cs).setRow (w.heap.size + 1 + 1 + 1) cs').cell? ⟨w.heap.size + 1, 1, none⟩ = some (.slice Ay ly.length cy)) := Lib.hid fun X cs cs' h =>
    ⟨(cell_setRow_other _ _ _ _ (by simp only; omega)).trans (KEEP1.out X cs h).1, (cell_setRow_other _ _ _ _ (by simp only; omega)).trans (KEEP1.out X cs h).2⟩
  have FIN : Hid (∀ (X : World) (b b' : Bool) (A A' : Option Addr) (n n' c c' : Nat), Kept w1 X → SIf w1.heap.size X (.agg #[.bool b, .slice A n c]) (x / y) →
      RetFloor w (x / y) (.returned (.tuple #[.agg #[.bool b, .slice A n c], .agg #[.bool b', .slice A' n' c']])) ((X.setRow (w.heap.size + 1 + 1) #[.bool b, .slice A n c]).setRow (w.heap.size + 1 + 1 + 1) #[.bool b', .slice A' n' c'])) := Lib.hid fun X b b' A A' n n' c c' h hv =>
    ⟨_, b', A', n', c', rfl, ((hv.setRow (by omega) _).setRow (by omega) _).mono (by omega), below_setRow (below_setRow (HKW.out.trans h) (by omega) _) (by omega) _⟩
  clear b1 b2 b3 b4 q1 q2 q3 r1 r2 r3 hk1 hk0 HSP HY hkw
  by_cases hn : x < 0
  · have hbt : bx = true := by rw [HBX.out]; exact decide_eq_true hn
    subst hbt
    have hfl := floor_neg x y hn HYC.out.2.1
    by_cases h0 : x.natAbs % y.natAbs = 0
    · rw [if_pos h0] at hfl
      have hl2 : l2 = [] := HR.out.2.nil_iff.2 h0
      subst hl2
      have HFL := Lib.hid hfl
      have HOF1 : Hid (Calls Try.prog 8 #[.bool true, .slice A1 l1.length c1] w1 (RetSI w1 (x / y))) := Lib.hid (by
        have := Of_any true A1 c1 l1 (Nat.le_trans (mag_len HQ.out.2 (Nat.lt_of_le_of_lt (Nat.div_le_self _ _) HYC.out.2.2)) (by decide)) HQ.out.2.lt w1 HQ.out.1
        have e : Num.le 256 l1.reverse = x.natAbs / y.natAbs := HQ.out.2.2
        rw [e] at this
        rw [HFL.out]
        exact this)
      clear hfl h0 hn
      go_wp2_with fail
      refine (HOF1.out).mono ?_
      rintro e w4 ⟨v4, rfl, hv4, hk4⟩
      have HV4 := Lib.hid (hv4.mono (B' := w1.heap.size) (Nat.le_refl _))
      obtain ⟨b4, A4, n4, c4, rfl⟩ := hv4.two
      have HB3 := Lib.hid (B3.out.below hk4)
      have HB4 := Lib.hid ((setRow_other w4 (w.heap.size + 1 + 1) (w.heap.size + 1 + 1 + 1) #[.bool b4, .slice A4 n4 c4] (by omega)).trans (B4.out.below hk4))
      have hst := run_storeVar_row (P := Try.prog) w4 (w.heap.size + 1 + 1) 24 24 _ #[.bool b4, .slice A4 n4 c4] HB3.out info_SI rfl (by simp [Value.oneCell'])
      have hst2 := run_storeVar_row (P := Try.prog) (w4.setRow (w.heap.size + 1 + 1) #[.bool b4, .slice A4 n4 c4]) (w.heap.size + 1 + 1 + 1) 24 24 _ #[.bool false, .slice none 0 0] HB4.out info_SI rfl (by simp [Value.oneCell'])
      have HK4 := Lib.hid hk4
      clear hv4 hk4
      simp [go_sem] at hst hst2
      go_wp2_with fail
      refine bodyPost_blk2 (cs := #[.bool b4, .slice A4 n4 c4]) (cs' := #[.bool false, .slice none 0 0]) rfl rfl
        ((setRow_other _ _ _ _ (by omega)).trans (setRow_heap _ _ _ _ _ _ HB3.out)) Try.underlying24 (by exact info_SI) rfl (setRow_heap _ _ _ _ _ _ HB4.out) Try.underlying24 (by exact info_SI) rfl ?_
      exact FIN.out w4 b4 false A4 none n4 0 c4 0 HK4.out HV4.out
    · rw [if_neg h0] at hfl
      have hl2 : ((l2.length : Int) == 0) = false := by
        have : l2 ≠ [] := fun e => h0 (HR.out.2.nil_iff.1 e)
        simp [this]
      have HFL := Lib.hid hfl
      have HSU : Hid (∀ (X : World) (p : Addr), Kept w1 X → Sl X (some p) 1 (by8 [1]) → Calls Try.prog 45 #[.slice A1 l1.length c1, .slice (some p) 1 1] X (RetMag X (x.natAbs / y.natAbs + 1))) := Lib.hid fun X p h h1 => by
        have := sum_any A1 (some p) c1 1 l1 [1] (by have := HQ.out.2.len (Nat.lt_of_le_of_lt (Nat.div_le_self _ _) HYC.out.2.2); omega) (by simp) HQ.out.2.lt (by simp) X (HQ.out.1.below h) h1
        rwa [HQ.out.2.num] at this
      have HOF1 : Hid (∀ (X : World) (A : Option Addr) (l : List Nat) (c : Nat), Sl X A c (by8 l) → BE l (x.natAbs / y.natAbs + 1) → Calls Try.prog 8 #[.bool true, .slice A l.length c] X (RetSI X (x / y))) := Lib.hid fun X A l c h1 h2 => by
        have hq : x.natAbs / y.natAbs + 1 ≤ Num.Cap := Nat.succ_le_of_lt (Nat.lt_of_le_of_lt (Nat.div_le_self _ _) HYC.out.2.2)
        have hll : l.length ≤ 2147483647 := by
          have h3 := Num.len_lt 256 (by decide) l.reverse h2.1 (Num.capK + 1) (by
            rw [h2.2]
            exact Nat.lt_of_le_of_lt hq (Nat.pow_lt_pow_right (by decide) (Nat.lt_succ_self _)))
          rw [List.length_reverse] at h3
          have h4 : Num.capK = 4096 := rfl
          omega
        have := Of_any true A c l (Nat.le_trans hll (by decide)) h2.lt X h1
        have e : Num.le 256 l.reverse = x.natAbs / y.natAbs + 1 := h2.2
        rw [e] at this
        rw [HFL.out]
        exact this
      have HLE : Hid (∀ X : World, Kept w1 X → Calls Try.prog 46 #[.slice Ay ly.length cy, .slice A2 l2.length c2] X (RetMag X (y.natAbs - x.natAbs % y.natAbs))) := Lib.hid fun X h => by
        have hlt := Nat.mod_lt x.natAbs (show 0 < y.natAbs by have := HYC.out.2.1; omega)
        have := less_any Ay A2 cy c2 ly l2 (by have := HYS.out.2.len HYC.out.1; omega) (by have := HR.out.2.len (Nat.lt_of_le_of_lt (Nat.mod_le _ _) HYC.out.2.2); omega) HYS.out.2.lt HR.out.2.lt (by rw [HYS.out.2.num, HR.out.2.num]; omega) X (HYS.out.1.below h) (HR.out.1.below h)
        rwa [HYS.out.2.num, HR.out.2.num] at this
      have HOF2 : Hid (∀ (X : World) (A : Option Addr) (l : List Nat) (c : Nat), Sl X A c (by8 l) → BE l (y.natAbs - x.natAbs % y.natAbs) → Calls Try.prog 8 #[.bool false, .slice A l.length c] X (RetSI X (sgn false (Num.le 256 l.reverse)))) := Lib.hid fun X A l c h1 h2 =>
        Of_any false A c l (Nat.le_trans (mag_len h2 (Nat.lt_of_le_of_lt (Nat.sub_le _ _) HYC.out.1)) (by decide)) h2.lt X h1
      clear hfl h0 hn
      go_wp2_with fail
      go_region_held3 (fun X : World => X.cell? ⟨w.heap.size + 1, 0, none⟩ = some (.bool false) ∧ X.cell? ⟨w.heap.size + 1, 1, none⟩ = some (.slice Ay ly.length cy))
        (first
          | exact KEEP2.out _ _ _ hk7
          | exact KEEP1.out _ _ hk7
          | exact KEEP.out _ (by go_grown))
        (first
          | (go_at_call 45
             (with_reducible refine Calls.mono (HSU.out _ _ ?_ ?_) ?_)
             · go_grown
             · first | exact one_sl w1 | exact (one_sl w1).below ⟨rfl, rfl, rfl, Nat.le_refl _, fun _ _ => rfl⟩
             rintro e w4 ⟨A4, c4, l4, rfl, q1, q2, q3, hk4'⟩
             have hk4 : Kept w1 w4 := Below.trans (by go_grown) (hk4'.mono (by go_size))
             have hz4 := hk4.size
             have HQ4 := Lib.hid (And.intro q1 q2)
             clear q1 q2 q3 hk4')
          | (go_at_call 8
             (with_reducible refine Calls.mono (HOF1.out _ A4 l4 c4 ?_ ?_) ?_)
             · exact HQ4.out.1
             · exact HQ4.out.2
             rintro e w5 ⟨v5, rfl, hv5, hk5'⟩
             have hk5 : Kept w1 w5 := Below.trans (by go_grown) (hk5'.mono (by go_size))
             have hz5 := hk5.size
             have HV5 := Lib.hid (hv5.mono (B' := w1.heap.size) (by go_size))
             obtain ⟨b5, A5, n5, c5, rfl⟩ := hv5.two
             clear hv5 hk5')
          | (go_at_call 46
             (with_reducible refine Calls.mono (HLE.out _ ?_) ?_)
             · go_grown
             rintro e w6 ⟨A6, c6, l6, rfl, q1, q2, q3, hk6'⟩
             have hk6 : Kept w1 w6 := Below.trans (by go_grown) (hk6'.mono (by go_size))
             have hz6 := hk6.size
             have HQ6 := Lib.hid (And.intro q1 q2)
             have HV6 : Hid (SIf w1.heap.size w6 (.agg #[.bool b5, .slice A5 n5 c5]) (x / y)) := Lib.hid (HV5.out.below hk6')
             clear q1 q2 q3 hk6')
          | (go_at_call 8
             (with_reducible refine Calls.mono (HOF2.out _ A6 l6 c6 ?_ ?_) ?_)
             · exact HQ6.out.1
             · exact HQ6.out.2
             rintro e w7 ⟨v7, rfl, hv7, hk7'⟩
             have hk7 : Kept w1 w7 := Below.trans (by go_grown) (hk7'.mono (by go_size))
             have HV7 : Hid (SIf w1.heap.size w7 (.agg #[.bool b5, .slice A5 n5 c5]) (x / y)) := Lib.hid (HV6.out.below hk7')
             obtain ⟨b7, A7, n7, c7, rfl⟩ := hv7.two
             have HB3 := Lib.hid (B3.out.below hk7)
             have HB4 := Lib.hid ((setRow_other w7 (w.heap.size + 1 + 1) (w.heap.size + 1 + 1 + 1) #[.bool b5, .slice A5 n5 c5] (by omega)).trans (B4.out.below hk7))
             have hst := run_storeVar_row (P := Try.prog) w7 (w.heap.size + 1 + 1) 24 24 _ #[.bool b5, .slice A5 n5 c5] HB3.out info_SI rfl (by simp [Value.oneCell'])
             have hst2 := run_storeVar_row (P := Try.prog) (w7.setRow (w.heap.size + 1 + 1) #[.bool b5, .slice A5 n5 c5]) (w.heap.size + 1 + 1 + 1) 24 24 _ #[.bool b7, .slice A7 n7 c7] HB4.out info_SI rfl (by simp [Value.oneCell'])
             clear hv7 hk7'
             simp [go_sem] at hst hst2))
      all_goals
        go_wp2_with fail
        refine bodyPost_blk2 (cs := #[.bool b5, .slice A5 n5 c5]) (cs' := #[.bool b7, .slice A7 n7 c7]) rfl rfl
          ((setRow_other _ _ _ _ (by omega)).trans (setRow_heap _ _ _ _ _ _ HB3.out)) Try.underlying24 (by exact info_SI) rfl (setRow_heap _ _ _ _ _ _ HB4.out) Try.underlying24 (by exact info_SI) rfl ?_
        exact FIN.out w7 b5 b7 A5 A7 n5 n7 c5 c7 hk7 HV7.out
  · have hbt : bx = false := by rw [HBX.out]; exact decide_eq_false hn
    subst hbt
    have HFL := Lib.hid (floor_pos x y hn HYC.out.2.1)
    clear hn
    have HOF1 : Hid (∀ W, Kept w1 W → Calls Try.prog 8 #[.bool false, .slice A1 l1.length c1] W (RetSI W (x / y))) := Lib.hid fun W h => by
      have := Of_any false A1 c1 l1 (Nat.le_trans (mag_len HQ.out.2 (Nat.lt_of_le_of_lt (Nat.div_le_self _ _) HYC.out.2.2)) (by decide)) HQ.out.2.lt W (HQ.out.1.below h)
      have e : Num.le 256 l1.reverse = x.natAbs / y.natAbs := HQ.out.2.2
      rw [e] at this
      rw [HFL.out]
      exact this
    have HOF2 : Hid (∀ W, Kept w1 W → Calls Try.prog 8 #[.bool false, .slice A2 l2.length c2] W (RetSI W (sgn false (Num.le 256 l2.reverse)))) := Lib.hid fun W h =>
      Of_any false A2 c2 l2 (Nat.le_trans (mag_len HR.out.2 (Nat.lt_of_le_of_lt (Nat.mod_le _ _) HYC.out.2.2)) (by decide)) HR.out.2.lt W (HR.out.1.below h)
    go_wp2_with fail
    go_region_held3 (fun X : World => X.cell? ⟨w.heap.size + 1, 0, none⟩ = some (.bool false) ∧ X.cell? ⟨w.heap.size + 1, 1, none⟩ = some (.slice Ay ly.length cy))
      (first
        | exact KEEP2.out _ _ _ hk5
        | exact KEEP1.out _ _ hk5
        | exact KEEP.out _ (by go_grown))
      (first
        | (go_at_call 8
           (with_reducible refine Calls.mono (HOF1.out _ ?_) ?_)
           · go_grown
           rintro e w4 ⟨v4, rfl, hv4, hk4'⟩
           have hk4 : Kept w1 w4 := Below.trans (by go_grown) (hk4'.mono (by go_size))
           have hz4 := hk4.size
           have HV4 := Lib.hid (hv4.mono (B' := w1.heap.size) (by go_size))
           obtain ⟨b4, A4, n4, c4, rfl⟩ := hv4.two
           clear hv4 hk4')
        | (go_at_call 8
           (with_reducible refine Calls.mono (HOF2.out _ ?_) ?_)
           · go_grown
           rintro e w5 ⟨v5, rfl, hv5, hk5'⟩
           have hk5 : Kept w1 w5 := Below.trans (by go_grown) (hk5'.mono (by go_size))
           have HV5 : Hid (SIf w1.heap.size w5 (.agg #[.bool b4, .slice A4 n4 c4]) (x / y)) := Lib.hid (HV4.out.below hk5')
           obtain ⟨b5, A5, n5, c5, rfl⟩ := hv5.two
           have HB3 := Lib.hid (B3.out.below hk5)
           have HB4 := Lib.hid ((setRow_other w5 (w.heap.size + 1 + 1) (w.heap.size + 1 + 1 + 1) #[.bool b4, .slice A4 n4 c4] (by omega)).trans (B4.out.below hk5))
           have hst := run_storeVar_row (P := Try.prog) w5 (w.heap.size + 1 + 1) 24 24 _ #[.bool b4, .slice A4 n4 c4] HB3.out info_SI rfl (by simp [Value.oneCell'])
           have hst2 := run_storeVar_row (P := Try.prog) (w5.setRow (w.heap.size + 1 + 1) #[.bool b4, .slice A4 n4 c4]) (w.heap.size + 1 + 1 + 1) 24 24 _ #[.bool b5, .slice A5 n5 c5] HB4.out info_SI rfl (by simp [Value.oneCell'])
           clear hv5 hk5'
           simp [go_sem] at hst hst2))
    go_wp2_with fail
    refine bodyPost_blk2 (cs := #[.bool b4, .slice A4 n4 c4]) (cs' := #[.bool b5, .slice A5 n5 c5]) rfl rfl
      ((setRow_other _ _ _ _ (by omega)).trans (setRow_heap _ _ _ _ _ _ HB3.out)) Try.underlying24 (by exact info_SI) rfl (setRow_heap _ _ _ _ _ _ HB4.out) Try.underlying24 (by exact info_SI) rfl ?_
    exact FIN.out w5 b4 b5 A4 A5 n4 n5 c4 c5 hk5 HV5.out
end Go.Proofs.Ytnheiigdgklbcaa
