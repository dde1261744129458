/- The reference's product. -/
import Derived.Test.YtoociokhldakbaaGreatO3
import Derived.BigQuiet
import Derived.Deep.QuietTactic
import Derived.Deep.RegionHeld3
namespace Go.Proofs.YtoociokhldakbaaGreat
open Go.ChangeShapes Go.WideShapes Go.ChangeAt Go.RowKit
set_option linter.unusedVariables false
theorem quiet_left {P : Program} {f : FuncId} {args : Array Value} {w : World} {n : Nat} {v : Value}
    (h : Calls P f args (w.drewN n) fun e w' => e = .returned v ∧ w.drewN n = w') : Calls P f args (w.drewN n) fun e w' => e = .returned v ∧ ∃ m, w' = w.drewN m :=
  h.mono fun _ _ ⟨he, hm⟩ => ⟨he, n, hm.symm⟩
namespace Num
/-- the number whose digits are d 0, d 1, .., d (m - 1), the lowest first -/
def sv (d : Nat → Nat) : Nat → Nat
  | 0 => 0
  | m + 1 => sv d m + d m * 256 ^ m
theorem sv_congr {d e : Nat → Nat} : ∀ m, (∀ j, j < m → d j = e j) → sv d m = sv e m
  | 0, _ => rfl
  | m + 1, h => by rw [sv, sv, sv_congr m (fun j hj => h j (by omega)), h m (by omega)]
theorem sv_le (d : Nat → Nat) : ∀ m, sv d m = le 256 ((List.range m).map d)
  | 0 => rfl
  | m + 1 => by
    rw [List.range_succ, List.map_append, le_append, List.length_map, List.length_range, ← sv_le d m, sv]
    simp [le, Nat.mul_comm]
theorem sv_zero (m : Nat) : sv (fun _ => 0) m = 0 := by
  induction m with
  | zero => rfl
  | succ m ih => rw [sv, ih]; simp
theorem sv_upd (d : Nat → Nat) (q v : Nat) : ∀ m, q < m → sv (fun j => if j = q then v else d j) m + d q * 256 ^ q = sv d m + v * 256 ^ q
  | 0, h => absurd h (Nat.not_lt_zero _)
  | m + 1, h => by
    rw [sv, sv]
    by_cases e : q = m
    · subst e
      rw [if_pos rfl, sv_congr (e := d) q (fun j hj => if_neg (by omega))]
      omega
    · have ih := sv_upd d q v m (by omega)
      rw [if_neg (Ne.symm e)]
      omega
theorem sv_lt (d : Nat → Nat) (m : Nat) (h : ∀ j, j < m → d j < 256) : sv d m < 256 ^ m := by
  have := le_lt 256 (by omega) ((List.range m).map d) (fun x hx => by
    obtain ⟨j, hj, rfl⟩ := List.mem_map.1 hx
    exact h j (List.mem_range.1 hj))
  rwa [← sv_le, List.length_map, List.length_range] at this
theorem sv_dg (d : Nat → Nat) (m j : Nat) (h : ∀ j, j < m → d j < 256) (hj : j < m) : dg 256 (sv d m) j = d j := by
  rw [sv_le, dg_le 256 _ _ (fun x hx => by
    obtain ⟨j, hj, rfl⟩ := List.mem_map.1 hx
    exact h j (List.mem_range.1 hj))]
  simp [List.getD_eq_getElem?_getD, hj]
theorem low_step (X i : Nat) : X % 256 ^ (i + 1) = X % 256 ^ i + dg 256 X i * 256 ^ i := by
  rw [Nat.pow_succ, Nat.mod_mul, dg, Nat.mul_comm (256 ^ i)]
/-- the state of the reference's multiplication: row i, place k, carry c -/
structure MulSt (X Y n i k c : Nat) (d : Nat → Nat) : Prop where
  dig : ∀ j, j < n + 1 → d j < 256
  car : c < 256
  eq : sv d (n + 1) + c * 256 ^ (i + k) = X % 256 ^ i * Y + dg 256 X i * 256 ^ i * (Y % 256 ^ k)
theorem MulSt.step {X Y n i k c s : Nat} {d : Nat → Nat} (h : MulSt X Y n i k c d) (hq : i + k < n + 1) (hs : s = d (i + k) + dg 256 X i * dg 256 Y k + c) :
    MulSt X Y n i (k + 1) (s / 256) (fun j => if j = i + k then s % 256 else d j) := by
  have hx := dg_lt (show 0 < 256 by omega) X i
  have hy := dg_lt (show 0 < 256 by omega) Y k
  have hp : dg 256 X i * dg 256 Y k ≤ 255 * 255 := Nat.mul_le_mul (by omega) (by omega)
  have hdq := h.dig _ hq
  have hc := h.car
  refine ⟨fun j hj => ?_, ?_, ?_⟩
  · show (if j = i + k then s % 256 else d j) < 256
    split
    · omega
    · exact h.dig j hj
  · generalize dg 256 X i * dg 256 Y k = p at *
    omega
  · have e1 := sv_upd d (i + k) (s % 256) (n + 1) hq
    have e2 := h.eq
    have e3 := low_step Y k
    have e4 : s % 256 * 256 ^ (i + k) + s / 256 * 256 ^ (i + k + 1) = s * 256 ^ (i + k) := by
      rw [Nat.pow_succ, Nat.mul_comm (256 ^ (i + k)) 256, ← Nat.mul_assoc, ← Nat.add_mul]
      congr 1
      omega
    have e5 : s * 256 ^ (i + k) = d (i + k) * 256 ^ (i + k) + dg 256 X i * 256 ^ i * (dg 256 Y k * 256 ^ k) + c * 256 ^ (i + k) := by
      rw [hs, Nat.add_mul, Nat.add_mul, Nat.pow_add]
      have : dg 256 X i * dg 256 Y k * (256 ^ i * 256 ^ k) = dg 256 X i * 256 ^ i * (dg 256 Y k * 256 ^ k) := by
        rw [Nat.mul_mul_mul_comm]
      omega
    rw [e3, Nat.mul_add]
    generalize dg 256 X i * 256 ^ i * (dg 256 Y k * 256 ^ k) = P at *
    generalize dg 256 X i * 256 ^ i * (Y % 256 ^ k) = Q at *
    generalize X % 256 ^ i * Y = R at *
    generalize d (i + k) * 256 ^ (i + k) = D at *
    rw [show i + (k + 1) = i + k + 1 by omega]
    generalize s % 256 * 256 ^ (i + k) = S1 at *
    generalize s / 256 * 256 ^ (i + k + 1) = S2 at *
    generalize c * 256 ^ (i + k) = C at *
    omega
theorem row_done {X Y i : Nat} : X % 256 ^ i * Y + dg 256 X i * 256 ^ i * Y = X % 256 ^ (i + 1) * Y := by
  rw [← Nat.add_mul, ← low_step]
/-- where y has no more digits and something is carried, the place is no further than y is long -/
theorem MulSt.place {X Y n i k c yl : Nat} {d : Nat → Nat} (h : MulSt X Y n i k c d) (hY : Y < 256 ^ yl) (hk : yl ≤ k) (hc : 0 < c) : k ≤ yl := by
  rcases Nat.lt_or_ge yl k with hlt | hge
  · exfalso
    have e := h.eq
    have hYk : Y % 256 ^ k = Y := Nat.mod_eq_of_lt (Nat.lt_of_lt_of_le hY (Nat.pow_le_pow_right (by omega) hk))
    rw [hYk, row_done] at e
    have h1 : X % 256 ^ (i + 1) < 256 ^ (i + 1) := Nat.mod_lt _ (Nat.pow_pos (by omega))
    have h2 : X % 256 ^ (i + 1) * Y ≤ 256 ^ (i + 1) * 256 ^ yl := Nat.mul_le_mul (Nat.le_of_lt h1) (Nat.le_of_lt hY)
    have h3 : 256 ^ (i + 1) * 256 ^ yl ≤ 256 ^ (i + k) := by
      rw [← Nat.pow_add]
      exact Nat.pow_le_pow_right (by omega) (by omega)
    have h4 : 1 * 256 ^ (i + k) ≤ c * 256 ^ (i + k) := Nat.mul_le_mul_right _ hc
    have h5 : X % 256 ^ (i + 1) * Y < 256 ^ (i + 1) * 256 ^ yl := by
      rcases Nat.eq_zero_or_pos Y with h0 | h0
      · rw [h0, Nat.mul_zero]; exact Nat.mul_pos (Nat.pow_pos (by omega)) (Nat.pow_pos (by omega))
      · exact Nat.lt_of_lt_of_le (Nat.mul_lt_mul_of_pos_right h1 h0) (Nat.mul_le_mul_left _ (Nat.le_of_lt hY))
    omega
  · exact hge
end Num
/-- the row of the digits, as cells -/
def dv (d : Nat → Nat) (j : Nat) : Value := .int .i64 ((d j : Nat) : Int)
theorem dv_set (d : Nat → Nat) (q v : Nat) : (fun j => if j = q then Value.int .i64 ((v : Nat) : Int) else dv d j) = dv (fun j => if j = q then v else d j) := by
  funext j
  by_cases h : j = q <;> simp [dv, h]
/-- the row when its i lowest digits are laid -/
def sdm (S n i j : Nat) : Value := if n ≤ i + j then .int .u8 ((Num.dg 256 S (n - 1 - j) : Nat) : Int) else .int .u8 0
theorem sdm_set (S n i : Nat) (hi : i < n) : (fun j => if j = n - 1 - i then Value.int .u8 ((Num.dg 256 S i : Nat) : Int) else sdm S n i j) = sdm S n (i + 1) := by
  funext j
  unfold sdm
  by_cases h : j = n - 1 - i
  · subst h
    rw [if_pos rfl, if_pos (by omega)]
    congr 3
    omega
  · rw [if_neg h]
    by_cases h2 : n ≤ i + j
    · rw [if_pos h2, if_pos (by omega)]
    · rw [if_neg h2, if_neg (by omega)]
theorem sdm_row {w : World} {g n : Nat} {S : Nat} {t : TypeId} (hr : w.rowIs g t n (sdm S n n)) (hn : n ≤ maxLen) : Sl w (some ⟨g, 0, none⟩) n (by8 (Num.be S n)) := by
  refine Sl_of_row hr (fun j u hu => ?_) (by rw [by8_len, Num.be_len]; exact Nat.le_refl _) hn
  have hj : j < n := by
    have := (List.getElem?_eq_some_iff.1 hu).1
    rwa [by8_len, Num.be_len] at this
  have e := Num.be_get S n j hj
  simp only [by8, List.getElem?_map, e, Option.map_some] at hu
  injection hu with hu
  rw [← hu, sdm, if_pos (by omega)]
theorem sgn_mul (x y : Int) : sgn (decide (x < 0) != decide (y < 0)) (x.natAbs * y.natAbs) = x * y := by
  have h : ((x.natAbs * y.natAbs : Nat) : Int) = ((x.natAbs : Nat) : Int) * ((y.natAbs : Nat) : Int) := Int.natCast_mul _ _
  unfold sgn
  by_cases a : x < 0 <;> by_cases b : y < 0 <;> simp only [a, b, decide_true, decide_false, bne_self_eq_false, Bool.true_bne, Bool.false_bne, Bool.not_false, if_true, if_false, Bool.false_eq_true, h]
  · rw [show ((x.natAbs : Nat) : Int) = -x by omega, show ((y.natAbs : Nat) : Int) = -y by omega, Int.neg_mul_neg]
  · rw [show ((x.natAbs : Nat) : Int) = -x by omega, show ((y.natAbs : Nat) : Int) = y by omega, Int.neg_mul, Int.neg_neg]
  · rw [show ((x.natAbs : Nat) : Int) = x by omega, show ((y.natAbs : Nat) : Int) = -y by omega, Int.mul_neg, Int.neg_neg]
  · rw [show ((x.natAbs : Nat) : Int) = x by omega, show ((y.natAbs : Nat) : Int) = y by omega]
set_option maxRecDepth 100000 in
set_option maxHeartbeats 4000000 in
theorem sMul_any (bx : Bool) (Ax : Option Addr) (nx cx : Nat) (x : Int) (yb : Bool) (Ay : Option Addr) (ny cy : Nat) (y : Int) (hxc : x.natAbs < Num.Cap) (hyc : y.natAbs < Num.Cap) (w : World) (hx : SI w (.agg #[.bool bx, .slice Ax nx cx]) x) (hy : SI w (.agg #[.bool yb, .slice Ay ny cy]) y) :
    Calls Tryz.prog 76 #[.agg #[.bool bx, .slice Ax nx cx], .agg #[.bool yb, .slice Ay ny cy]] w (RetSI w (x * y)) := by
  obtain ⟨hbx, lx, rfl, hsx, ux⟩ := hx.parts
  obtain ⟨hby, ly, rfl, hsy, uy⟩ := hy.parts
  have lx1 := ux.len hxc
  have ly1 := uy.len hyc
  have hSG : sgn (!(bx == yb)) (x.natAbs * y.natAbs) = x * y := by rw [hbx, hby]; exact sgn_mul x y
  have hXl : x.natAbs < 256 ^ lx.length := by rw [← ux.num]; exact beN_lt lx ux.lt
  have hYl : y.natAbs < 256 ^ ly.length := by rw [← uy.num]; exact beN_lt ly uy.lt
  have hdx := ux.lt
  have hdy := uy.lt
  have HDX : Hid (∀ i W, i ≤ 2147483647 → Kept w W → Calls Tryz.prog 78 #[.slice Ax lx.length cx, .int .i64 (i : Nat)] W fun e w' => e = .returned (.int .i64 ((Num.dg 256 x.natAbs i : Nat) : Int)) ∧ W = w') := Lib.hid fun i W hi hk => by
    have := digit_any Ax cx lx hdx i hi W (hsx.below hk)
    rwa [ux.num] at this
  have HDY : Hid (∀ i W, i ≤ 2147483647 → Kept w W → Calls Tryz.prog 78 #[.slice Ay ly.length cy, .int .i64 (i : Nat)] W fun e w' => e = .returned (.int .i64 ((Num.dg 256 y.natAbs i : Nat) : Int)) ∧ W = w') := Lib.hid fun i W hi hk => by
    have := digit_any Ay cy ly hdy i hi W (hsy.below hk)
    rwa [uy.num] at this
  have HSG := Lib.hid hSG
  generalize x * y = Z at *
  clear hx hy hbx hby hsx hsy ux uy hdx hdy hxc hyc hSG
  generalize x.natAbs = X at *
  generalize y.natAbs = Y at *
  generalize lx.length = xl at *
  generalize ly.length = yl at *
  have hk0 : Kept w (((w.alloc (.cells #[.bool bx, .slice Ax xl cx] 65)).alloc (.cells #[.bool yb, .slice Ay yl cy] 65)).alloc (.cells #[.bool false, .slice none 0 0] 65)) := by go_grown
  have b1 : Blk (((w.alloc (.cells #[.bool bx, .slice Ax xl cx] 65)).alloc (.cells #[.bool yb, .slice Ay yl cy] 65)).alloc (.cells #[.bool false, .slice none 0 0] 65)) w.heap.size 65 #[.bool bx, .slice Ax xl cx] :=
    ((Blk.new w _ _).below ((Below.refl _ _).alloc (Nat.le_refl _) _)).below ((Below.refl _ _).alloc (Nat.le_refl _) _)
  have b2 : Blk (((w.alloc (.cells #[.bool bx, .slice Ax xl cx] 65)).alloc (.cells #[.bool yb, .slice Ay yl cy] 65)).alloc (.cells #[.bool false, .slice none 0 0] 65)) (w.heap.size + 1) 65 #[.bool yb, .slice Ay yl cy] := by
    have := (Blk.new (w.alloc (.cells #[.bool bx, .slice Ax xl cx] 65)) 65 #[.bool yb, .slice Ay yl cy]).below ((Below.refl _ _).alloc (Nat.le_refl _) (.cells #[.bool false, .slice none 0 0] 65))
    rwa [World.size_alloc] at this
  have b3 : Blk (((w.alloc (.cells #[.bool bx, .slice Ax xl cx] 65)).alloc (.cells #[.bool yb, .slice Ay yl cy] 65)).alloc (.cells #[.bool false, .slice none 0 0] 65)) (w.heap.size + 1 + 1) 65 #[.bool false, .slice none 0 0] := by
    have := Blk.new ((w.alloc (.cells #[.bool bx, .slice Ax xl cx] 65)).alloc (.cells #[.bool yb, .slice Ay yl cy] 65)) 65 #[.bool false, .slice none 0 0]
    rwa [World.size_alloc, World.size_alloc] at this
  have hsz0 : (((w.alloc (.cells #[.bool bx, .slice Ax xl cx] 65)).alloc (.cells #[.bool yb, .slice Ay yl cy] 65)).alloc (.cells #[.bool false, .slice none 0 0] 65)).heap.size = w.heap.size + 1 + 1 + 1 := by simp only [World.size_alloc]
  have hmk := run_make_row' (P := Tryz.prog) 43 3 (.int .i64 0) 8 Tryz.underlying43 (by kernel_rfl) rfl .i64 .i64 (xl + yl + 1) (by omega) (by omega) (((w.alloc (.cells #[.bool bx, .slice Ax xl cx] 65)).alloc (.cells #[.bool yb, .slice Ay yl cy] 65)).alloc (.cells #[.bool false, .slice none 0 0] 65))
  have eN : ((xl + yl + 1 : Nat) : Int) = (xl : Int) + (yl : Int) + 1 := by omega
  rw [eN, hsz0] at hmk
  have hr0 : ((((w.alloc (.cells #[.bool bx, .slice Ax xl cx] 65)).alloc (.cells #[.bool yb, .slice Ay yl cy] 65)).alloc (.cells #[.bool false, .slice none 0 0] 65)).alloc (.cells (madeCells #[Value.int .i64 0] (xl + yl + 1)) 3)).rowIs (w.heap.size + 1 + 1 + 1) 3 (xl + yl + 1) (dv (fun _ => 0)) := by
    rw [← hsz0]
    exact (World.rowIs_made _ (.int .i64 0) (xl + yl + 1) 3).congr (fun j hj => rfl)
  have c1 := b1.cell 1
  have c3 := b2.cell 1
  simp only [List.getElem?_toArray, List.getElem?_cons_zero, List.getElem?_cons_succ] at c1 c3
  have HB1 := Lib.hid b1
  have HB2 := Lib.hid b2
  have HB3 := Lib.hid b3
  have HK0 := Lib.hid hk0
  have HR0 := Lib.hid hr0
  have HXL := Lib.hid hXl
  have HYL := Lib.hid hYl
  clear eN b1 b2 b3 hk0 hr0 hXl hYl
  go_enter Tryz.func76, Tryz.ntmps76
  go_wp2_with fail
  generalize (((w.alloc (.cells #[.bool bx, .slice Ax xl cx] 65)).alloc (.cells #[.bool yb, .slice Ay yl cy] 65)).alloc (.cells #[.bool false, .slice none 0 0] 65)) = W0 at *
  generalize hW1 : W0.alloc (.cells (madeCells #[Value.int .i64 0] (xl + yl + 1)) 3) = W1 at *
  have hk1 : Kept W0 W1 := by rw [← hW1]; exact (Below.refl _ _).alloc (Nat.le_refl _) _
  have HK1 := Lib.hid hk1
  clear hW1 hmk c1 c3 hk1
  go_loopw [7] (fun iv wr => ∃ (i : Nat) (d : Nat → Nat), iv = .int .i64 i ∧ i ≤ xl ∧ wr.rowIs (w.heap.size + 1 + 1 + 1) 3 (xl + yl + 1) (dv d) ∧ Hid ((∀ j, j < xl + yl + 1 → d j < 256) ∧ Num.sv d (xl + yl + 1) = X % 256 ^ i * Y) ∧ Kept W0 wr) (fun iv _ => xl - (intOf iv).toNat)
  case atStart => exact ⟨0, fun _ => 0, rfl, Nat.zero_le _, HR0.out, ⟨fun _ _ => by show 0 < 256; omega, by rw [Num.sv_zero, Nat.pow_zero, Nat.mod_one, Nat.zero_mul]⟩, HK1.out⟩
  case round =>
    obtain ⟨i, d0, rfl, hi, hr, HD, hbr⟩ := hrel
    by_cases hlt : i < xl
    · have i1 : (i : Int) < (xl : Int) := by omega
      have KC : Hid (∀ X : World, Kept W0 X → X.cell? ⟨w.heap.size, 1, none⟩ = some (.slice Ax xl cx) ∧ X.cell? ⟨w.heap.size + 1, 1, none⟩ = some (.slice Ay yl cy)) := Lib.hid fun X h =>
        ⟨(HB1.out.below h).cell 1, (HB2.out.below h).cell 1⟩
      obtain ⟨k1, k2⟩ := KC.out wr hbr
      obtain ⟨wo, rfl⟩ : ∃ wo : World, wo = wr := ⟨_, rfl⟩
      go_wp2_with fail
      clear k1 k2
      go_loopw [8, 9] (fun cv kv wx => ∃ (k c : Nat) (d : Nat → Nat), kv = .int .i64 k ∧ cv = .int .i64 c ∧ k ≤ yl + 1 ∧ wx.rowIs (w.heap.size + 1 + 1 + 1) 3 (xl + yl + 1) (dv d) ∧ Hid (Num.MulSt X Y (xl + yl) i k c d) ∧ Kept W0 wx) (fun _ kv _ => xl + yl + 2 - (intOf kv).toNat)
      case atStart => exact ⟨0, 0, d0, rfl, rfl, Nat.zero_le _, hr, ⟨HD.out.1, by omega, by rw [HD.out.2, Nat.pow_zero, Nat.mod_one, Nat.mul_zero, Nat.zero_mul]⟩, hbr⟩
      case round =>
        obtain ⟨k, c, d, rfl, rfl, hk, hrk, HM, hbx⟩ := hrel
        obtain ⟨k1, k2⟩ := KC.out wr hbx
        by_cases hgo : k < yl ∨ 0 < c
        · have hky : k ≤ yl := by
            rcases Nat.lt_or_ge k yl with h1 | h1
            · omega
            · exact HM.out.place HYL.out h1 (by omega)
          have hq : i + k < xl + yl + 1 := by omega
          have hxd := Num.dg_lt (show 0 < 256 by omega) X i
          have hyd := Num.dg_lt (show 0 < 256 by omega) Y k
          have hcd := HM.out.car
          have hdd := HM.out.dig _ hq
          have hpd : Num.dg 256 X i * Num.dg 256 Y k ≤ 255 * 255 := Nat.mul_le_mul (by omega) (by omega)
          have hstep := fun s hs => HM.out.step (s := s) hq hs
          have hcl : wr.cell? ⟨w.heap.size + 1 + 1 + 1, i + k, none⟩ = some (.int .i64 ((d (i + k) : Nat) : Int)) := hrk.cell (i := i + k) hq
          have hfr := hrk.frozen (i + k)
          have hset : ∀ s nq, ((wr.drewN nq).setCell ⟨w.heap.size + 1 + 1 + 1, i + k, none⟩ (.int .i64 ((s % 256 : Nat) : Int))).rowIs (w.heap.size + 1 + 1 + 1) 3 (xl + yl + 1) (dv (fun j => if j = i + k then s % 256 else d j)) := fun s nq => by
            have := (rowIs_drewN hrk nq).set (i + k) (.int .i64 ((s % 256 : Nat) : Int))
            rwa [dv_set] at this
          have hkept : ∀ s nq, Kept W0 ((wr.drewN nq).setCell ⟨w.heap.size + 1 + 1 + 1, i + k, none⟩ (.int .i64 ((s % 256 : Nat) : Int))) := fun s nq => (show Kept W0 (wr.drewN nq) from below_drewN hbx nq).setCell (by simp only; omega) _
          have QX := fun q => Lib.hid (quiet_left (n := q) (w := wr) (HDX.out i (wr.drewN q) (by omega) (HK0.out.trans (below_drewN hbx q))))
          have QY := fun q => Lib.hid (quiet_left (n := q) (w := wr) (HDY.out k (wr.drewN q) (by omega) (HK0.out.trans (below_drewN hbx q))))
          have HSTEP := Lib.hid hstep
          have HSET := Lib.hid hset
          have HKEPT := Lib.hid hkept
          have p0 : (0 : Int) ≤ (Num.dg 256 X i : Int) * (Num.dg 256 Y k : Int) := by rw [← Int.natCast_mul]; omega
          have p1 : (Num.dg 256 X i : Int) * (Num.dg 256 Y k : Int) ≤ 65025 := by rw [← Int.natCast_mul]; omega
          have p2 : (Num.dg 256 X i : Int) * (Num.dg 256 Y k : Int) = ((Num.dg 256 X i * Num.dg 256 Y k : Nat) : Int) := (Int.natCast_mul _ _).symm
          have P2 := Lib.hid p2
          have i2 : ((i : Int) + (k : Int)) < (xl : Int) + (yl : Int) + 1 := by omega
          clear hstep hset hkept hrk hbx HM hpd p2
          generalize Num.dg 256 X i = a at *
          generalize Num.dg 256 Y k = b at *
          generalize d (i + k) = e at *
          have hcase : (k < yl) ∨ (¬ k < yl ∧ (0 : Int) < (c : Int)) := by omega
          clear hgo
          rcases hcase with h1 | ⟨h1, h2⟩
          all_goals
            go_wp2_with fail
            go_quiet ((go_at_call 78; first | with_reducible exact (QX _).out | with_reducible exact (QY _).out))
            go_wp2_with fail
            have es : (e : Int) + (a : Int) * (b : Int) + (c : Int) = ((e + a * b + c : Nat) : Int) := by rw [P2.out]; omega
            simp only [es]
            have S1 := HSTEP.out _ rfl
            refine ⟨⟨k + 1, (e + a * b + c) / 256, _, by go_num, by rw [Int.natCast_ediv]; rfl, by omega, ?_, S1, ?_⟩, by simp [intOf]; omega⟩
            · have := HSET.out (e + a * b + c) nq
              rw [Int.natCast_emod] at this
              exact this
            · have := HKEPT.out (e + a * b + c) nq
              rw [Int.natCast_emod] at this
              exact this
        · have h1 : ¬ k < yl := by omega
          have h2 : c = 0 := by omega
          subst h2
          have hrow : Num.sv d (xl + yl + 1) = X % 256 ^ (i + 1) * Y := by
            have e1 := HM.out.eq
            rw [Nat.zero_mul, Nat.mod_eq_of_lt (Nat.lt_of_lt_of_le HYL.out (Nat.pow_le_pow_right (by omega) (by omega))), Num.row_done] at e1
            simpa using e1
          have HROW := Lib.hid hrow
          clear hrow hgo
          go_wp2_with fail
          exact ⟨⟨i + 1, d, by go_num, by omega, hrk, ⟨HM.out.dig, HROW.out⟩, hbx⟩, by simp [intOf]; omega⟩
    · obtain rfl : i = xl := by omega
      have hlast : Num.sv d0 (i + yl + 1) = X * Y := by rw [HD.out.2, Nat.mod_eq_of_lt HXL.out]
      have hXY : X * Y < 256 ^ (i + yl) := by
        rw [Nat.pow_add]
        rcases Nat.eq_zero_or_pos Y with h0 | h0
        · rw [h0, Nat.mul_zero]; exact Nat.mul_pos (Nat.pow_pos (by omega)) (Nat.pow_pos (by omega))
        · exact Nat.lt_of_lt_of_le (Nat.mul_lt_mul_of_pos_right HXL.out h0) (Nat.mul_le_mul_left _ (Nat.le_of_lt HYL.out))
      have hdig : ∀ j, j < i + yl + 1 → d0 j = Num.dg 256 (X * Y) j := fun j hj => by rw [← hlast]; exact (Num.sv_dg d0 _ j HD.out.1 hj).symm
      have hcells : ∀ W : World, Kept wr W → ∀ j, j < i + yl → W.cell? ⟨w.heap.size + 1 + 1 + 1, j, none⟩ = some (.int .i64 ((Num.dg 256 (X * Y) j : Nat) : Int)) := fun W hW j hj => by
        have h1 : wr.cell? ⟨w.heap.size + 1 + 1 + 1, j, none⟩ = some (dv d0 j) := hr.cell (i := j) (by omega)
        rw [dv, hdig j (by omega)] at h1
        exact (hW.cell (p := ⟨w.heap.size + 1 + 1 + 1, j, none⟩) (block_lt_of_cell h1)).trans h1
      have hmk2 := run_make_row' (P := Tryz.prog) 29 5 (.int .u8 0) 1 Tryz.underlying29 info8 rfl .i64 .i64 (i + yl) (by omega) (by omega) wr
      have eN2 : ((i + yl : Nat) : Int) = (i : Int) + (yl : Int) := by omega
      rw [eN2] at hmk2
      have hro : (wr.alloc (.cells (madeCells #[Value.int .u8 0] (i + yl)) 5)).rowIs wr.heap.size 5 (i + yl) (sdm (X * Y) (i + yl) 0) :=
        (World.rowIs_made _ (.int .u8 0) (i + yl) 5).congr (fun j hj => by unfold sdm; rw [if_neg (by omega)])
      have hkA : Kept wr (wr.alloc (.cells (madeCells #[Value.int .u8 0] (i + yl)) 5)) := (Below.refl _ _).alloc (Nat.le_refl _) _
      have hzr := hbr.size
      have c1 := (HB1.out.below hbr).cell 1
      simp only [List.getElem?_toArray, List.getElem?_cons_zero, List.getElem?_cons_succ] at c1
      have HCELLS := Lib.hid hcells
      have HXY := Lib.hid hXY
      have HRO := Lib.hid hro
      have HKA := Lib.hid hkA
      have HBR := Lib.hid hbr
      clear hlast hdig hcells hr hXY eN2 hro hkA hbr HD
      go_wp2_with fail
      obtain ⟨wo, rfl⟩ : ∃ wo : World, wo = wr := ⟨_, rfl⟩
      go_loopw [12] (fun iv wr => ∃ t : Nat, iv = .int .i64 t ∧ t ≤ i + yl ∧ wr.rowIs wo.heap.size 5 (i + yl) (sdm (X * Y) (i + yl) t) ∧ Kept wo wr) (fun iv _ => i + yl - (intOf iv).toNat)
      case atStart => exact ⟨0, rfl, Nat.zero_le _, HRO.out, HKA.out⟩
      case round =>
        obtain ⟨t, rfl, ht, hrt, hbt⟩ := hrel
        by_cases hlt2 : t < i + yl
        · have hcl := hrt.cell (i := i + yl - 1 - t) (by omega)
          have hfr := hrt.frozen (i + yl - 1 - t)
          have hdc := HCELLS.out wr hbt t hlt2
          have hdl := Num.dg_lt (show 0 < 256 by omega) (X * Y) t
          have hset := hrt.set (i + yl - 1 - t) (.int .u8 ((Num.dg 256 (X * Y) t : Nat) : Int))
          rw [sdm_set (X * Y) (i + yl) t hlt2] at hset
          have hkept := hbt.setCell (p := ⟨wo.heap.size, i + yl - 1 - t, none⟩) (Nat.le_refl _) (.int .u8 ((Num.dg 256 (X * Y) t : Nat) : Int))
          have HSET := Lib.hid hset
          have HKEPT := Lib.hid hkept
          have hsub : (i : Int) + (yl : Int) - 1 - (t : Int) = ((i + yl - 1 - t : Nat) : Int) := by omega
          have hsub0 : (0 : Int) ≤ ((i + yl - 1 - t : Nat) : Int) := by omega
          have hsub1 : ((i + yl - 1 - t : Nat) : Int) < (i : Int) + (yl : Int) := by omega
          have t1 : (t : Int) < (i : Int) + (yl : Int) := by omega
          have t2 : (t : Int) < (i : Int) + (yl : Int) + 1 := by omega
          have hdl2 : ((Num.dg 256 (X * Y) t : Nat) : Int) < 256 := by omega
          clear hset hkept hrt hbt
          generalize sdm (X * Y) (i + yl) t (i + yl - 1 - t) = old at *
          generalize Num.dg 256 (X * Y) t = z at *
          generalize i + yl - 1 - t = pos at *
          go_wp2_with fail
          exact ⟨⟨t + 1, by go_num, by omega, HSET.out, HKEPT.out⟩, by simp [intOf]; omega⟩
        · obtain rfl : t = i + yl := by omega
          have hn : ¬ ((i : Int) + (yl : Int) < (i : Int) + (yl : Int)) := by omega
          have hSl := sdm_row hrt (by unfold maxLen; omega)
          have HOF := Lib.hid (Of_any (!(bx == yb)) (some ⟨wo.heap.size, 0, none⟩) (i + yl) (Num.be (X * Y) (i + yl)) (by rw [Num.be_len]; omega) (Num.be_lt _ _) wr hSl)
          rw [Num.be_len, Num.be_le _ _ HXY.out, HSG.out] at HOF
          have hbz : Kept W0 wr := HBR.out.trans hbt
          have q1 := (HB1.out.below hbz).cell 0
          have q2 := (HB2.out.below hbz).cell 0
          simp only [List.getElem?_toArray, List.getElem?_cons_zero] at q1 q2
          have HB := Lib.hid (HB3.out.below hbz)
          have HBZ := Lib.hid hbz
          have hzz := hbz.size
          clear hSl hrt hbt hbz
          go_wp2_with fail
          refine (HOF.out).mono ?_
          rintro e w4 ⟨v4, rfl, hv4, hk4⟩
          have hz4 := hk4.size
          have H := Lib.hid (HB.out.below hk4)
          have HV4 := Lib.hid hv4
          obtain ⟨b4, A4, n5, c4, rfl⟩ := hv4.two
          have HK4 : Hid (Kept w w4) := Lib.hid ((HK0.out.trans HBZ.out).trans hk4)
          clear hv4 hk4
          go_wp2_with (refine wpList_store_row rfl 65 (.tmp 4) (.tmp 92) rfl (w.heap.size + 1 + 1) _ rfl rfl 65 _ H.out info_SI rfl (by simp [Value.oneCell']) ?_)
          refine bodyPost_blk (cs := #[.bool b4, .slice A4 n5 c4]) rfl rfl (setRow_heap _ _ _ _ _ _ H.out) Tryz.underlying65 rfl (by exact info_SI) rfl ?_
          exact ⟨_, rfl, (HV4.out.setRow (k := w.heap.size + 1 + 1) (by omega) _).mono (by omega), below_setRow HK4.out (by omega) _⟩
end Go.Proofs.YtoociokhldakbaaGreat
