/- Integers of the package multiplied, into a new one. -/
import Derived.Test.YtikjdibngkcpkaaDoorM5
import Derived.Test.YtikjdibngkcpkaaDoorLg
import Derived.Deep.QuietTactic
import Derived.BigQuiet
namespace Go.Proofs.YtikjdibngkcpkaaDoor
open Go.ChangeShapes Go.WideShapes Go.ChangeAt Go.RowKit
set_option linter.unusedVariables false
/-- the store of a number and of its sign into a new integer -/
theorem fin_store {w w1 : World} {g : Nat} {A1 : Option Addr} {k1 : Nat} {ws : List Nat} {z : Int} {b : Bool} (hg : BI0 w g) (hk : Kept w w1) (hs : Sl w1 A1 k1 (w64 ws)) (hf : Fr w.heap.size A1) (hl : LW ws z.natAbs) (hb : decide (z < 0) = b) :
    w1.cell? ⟨g, 1, none⟩ = some (.slice none 0 0) ∧ w1.frozen? ⟨g, 1, none⟩ = false ∧
    (w1.setCell ⟨g, 1, none⟩ (.slice A1 ws.length k1)).cell? ⟨g, 0, none⟩ = some (.bool false) ∧ (w1.setCell ⟨g, 1, none⟩ (.slice A1 ws.length k1)).frozen? ⟨g, 0, none⟩ = false ∧
    RetPF w g z (.returned (.pointer (some ⟨g, 0, none⟩))) ((w1.setCell ⟨g, 1, none⟩ (.slice A1 ws.length k1)).setCell ⟨g, 0, none⟩ (.bool b)) := by
  have lg := Blk.lt hg
  have hg1 : BI0 w1 g := (hk.block g lg).trans hg
  have hg2 := Blk.set hg1 1 (.slice A1 ws.length k1)
  have hne1 : ∀ b off, A1 = some ⟨b, off, none⟩ → b ≠ g ∧ w.heap.size ≤ b := fun b off h => by have h1 := (hf _ h).1; have h2 : w.heap.size ≤ b := h1; exact ⟨by omega, h2⟩
  have hs2 := (hs.setFar (i := 1) (fun b off h => (hne1 b off h).1) (.slice A1 ws.length k1)).setFar (i := 0) (fun b off h => (hne1 b off h).1) (.bool b)
  have ho2 := only_set (only_set (only_of_kept hk (some g)) 1 (.slice A1 ws.length k1)) 0 (.bool b)
  have hg3 : Blk ((w1.setCell ⟨g, 1, none⟩ (.slice A1 ws.length k1)).setCell ⟨g, 0, none⟩ (.bool b)) g 54 #[.bool (decide (z < 0)), .slice A1 ws.length k1] := by rw [hb]; simpa using Blk.set hg2 0 (.bool b)
  exact ⟨Blk.cell hg1 1, Blk.frozen hg1 1, Blk.cell hg2 0, Blk.frozen hg2 0, RetPF.of hg3 hs2 hl hne1 ho2⟩
theorem run_eql_ptr_ne {P : Program} (w : World) {tp te : TypeId} {j : TypeInfo} {a b : Addr} {ca cb : Array Value} {ta tb : TypeId} (hp : P.underlying tp = some (.pointer te)) (hte : P.info? te = some j) (hsz : j.size ≠ 0)
    (hne : a ≠ b) (ha : w.heap[a.block]? = some (.cells ca ta (0, 0))) (hb : w.heap[b.block]? = some (.cells cb tb (0, 0))) :
    (binOp .eql tp (.pointer (some a)) (.pointer (some b))).run P w = .ok (.bool false) w := by
  have h : ∀ d : Nat, (Op.equalIn (d + 1) tp (.pointer (some a)) (.pointer (some b))).run P w = .ok false w := fun d => by
    simp [Op.equalIn, run_underlying hp, sizeOf, typeInfo, hte, hsz, run_sameAddr_other w hne ha hb]
  simp only [binOp]
  simp [Op.equal, Op.maxDepth, h 9999]
/-- what the method without a result leaves -/
def RetMF (w : World) (g : Nat) (z : Int) (e : Ending) (w' : World) : Prop := e = .returned (.tuple #[]) ∧ BIf w.heap.size w' g z ∧ w.grownBy w' (some g)
theorem LW.len_le {ws : List Nat} {N k : Nat} (h : LW ws N) (hN : N < Num.B64 ^ k) : ws.length ≤ k :=
  Num.len_lt Num.B64 (by decide) ws h.1 k (by rw [h.2]; exact hN)
/-- draws in between change nothing of it -/
theorem RetDrewN {w w2 : World} {g : Nat} {Z : Int} {b : Bool} (n : Nat) (h : BIf w.heap.size (w2.setCell ⟨g, 0, none⟩ (.bool b)) g Z ∧ w.grownBy (w2.setCell ⟨g, 0, none⟩ (.bool b)) (some g)) :
    BIf w.heap.size ((w2.drewN n).setCell ⟨g, 0, none⟩ (.bool b)) g Z ∧ w.grownBy ((w2.drewN n).setCell ⟨g, 0, none⟩ (.bool b)) (some g) := by
  have e : ((w2.drewN n).setCell ⟨g, 0, none⟩ (.bool b)) = (w2.setCell ⟨g, 0, none⟩ (.bool b)).drewN n := rfl
  rw [e]
  exact ⟨h.1.below (below_drewN (Below.refl _ _) n), ⟨h.2.os, h.2.tape, h.2.output, h.2.size, h.2.block⟩⟩
/-- the sign of a product -/
theorem mul_neg (X Y : Int) : decide (X * Y < 0) = (!decide ((X * Y).natAbs = 0) && (decide (X < 0) != decide (Y < 0))) := by
  rcases Int.lt_trichotomy X 0 with h | h | h <;> rcases Int.lt_trichotomy Y 0 with k | k | k
  · have := Int.mul_pos_of_neg_of_neg h k
    have e1 : decide (X < 0) = true := decide_eq_true h
    have e2 : decide (Y < 0) = true := decide_eq_true k
    have e3 : decide (X * Y < 0) = false := decide_eq_false (by omega)
    rw [e1, e2, e3]; simp
  · subst k; simp
  · have := Int.mul_neg_of_neg_of_pos h k
    have e1 : decide (X < 0) = true := decide_eq_true h
    have e2 : decide (Y < 0) = false := decide_eq_false (by omega)
    have e3 : decide (X * Y < 0) = true := decide_eq_true (by omega)
    have e4 : decide ((X * Y).natAbs = 0) = false := decide_eq_false (by omega)
    rw [e1, e2, e3, e4]; simp
  · subst h; simp
  · subst h; simp
  · subst h; simp
  · have := Int.mul_neg_of_pos_of_neg h k
    have e1 : decide (X < 0) = false := decide_eq_false (by omega)
    have e2 : decide (Y < 0) = true := decide_eq_true k
    have e3 : decide (X * Y < 0) = true := decide_eq_true (by omega)
    have e4 : decide ((X * Y).natAbs = 0) = false := decide_eq_false (by omega)
    rw [e1, e2, e3, e4]; simp
  · subst k; simp
  · have := Int.mul_pos h k
    have e1 : decide (X < 0) = false := decide_eq_false (by omega)
    have e2 : decide (Y < 0) = false := decide_eq_false (by omega)
    have e3 : decide (X * Y < 0) = false := decide_eq_false (by omega)
    rw [e1, e2, e3]; simp
set_option maxRecDepth 100000 in
set_option maxHeartbeats 4000000 in
theorem bigmul_in (g x y : Nat) (X Y : Int) (hX : X.natAbs < Num.B64 ^ 39) (hY : Y.natAbs < Num.B64 ^ 39) (hgx : g ≠ x) (hgy : g ≠ y) (hxy : x ≠ y) (w : World) (hg : BI0 w g) (hx : BI w x X) (hy : BI w y Y) (hgl : w.cell? ⟨2, 0, none⟩ = some (.int .i64 40)) :
    Calls Tryd.prog 33 #[.pointer (some ⟨g, 0, none⟩), .pointer none, .pointer (some ⟨x, 0, none⟩), .pointer (some ⟨y, 0, none⟩)] w (RetMF w g (X * Y)) := by
  obtain ⟨Ax, cx, xs, hbx, hsx, hlx, _⟩ := hx
  obtain ⟨Ay, cy, ys, hby, hsy, hly, _⟩ := hy
  have hsg := mul_neg X Y
  generalize hbX : decide (X < 0) = bx at *
  generalize hbY : decide (Y < 0) = by' at *
  clear hbX hbY
  have lx : xs.length ≤ 39 := LW.len_le hlx hX
  have ly : ys.length ≤ 39 := LW.len_le hly hY
  have g1 : w.cell? ⟨g, 1, none⟩ = some (.slice none 0 0) := Blk.cell hg 1
  have x0 : w.cell? ⟨x, 0, none⟩ = some (.bool bx) := hbx.cell 0
  have x1 : w.cell? ⟨x, 1, none⟩ = some (.slice Ax xs.length cx) := hbx.cell 1
  have y0 : w.cell? ⟨y, 0, none⟩ = some (.bool by') := hby.cell 0
  have y1 : w.cell? ⟨y, 1, none⟩ = some (.slice Ay ys.length cy) := hby.cell 1
  have lgx := Blk.lt hbx
  have lgy := Blk.lt hby
  have lgg := Blk.lt hg
  have HM : Hid (∀ W : World, Kept w W → Calls Tryd.prog 41 #[.slice none 0 0, .pointer none, .slice Ax xs.length cx, .slice Ay ys.length cy] W (RetNat W (X * Y).natAbs)) := Lib.hid fun W hk => by
    rw [Int.natAbs_mul]
    exact natMul_any Ax Ay cx cy xs ys _ _ lx ly hlx hly W (hsx.below hk) (hsy.below hk) ((hk.cell (p := ⟨2, 0, none⟩) (block_lt_of_cell hgl)).trans hgl)
  obtain ⟨j, hj, hj0⟩ := info_big
  have hneq := run_eql_ptr_ne (P := Tryd.prog) w Tryd.underlying38 hj hj0 (a := ⟨x, 0, none⟩) (b := ⟨y, 0, none⟩) (fun e => hxy (by injection e)) hbx hby
  clear hj hj0
  have KEEP : Hid (∀ W : World, Kept w W → W.cell? ⟨g, 1, none⟩ = some (.slice none 0 0) ∧ W.cell? ⟨x, 1, none⟩ = some (.slice Ax xs.length cx) ∧ W.cell? ⟨y, 1, none⟩ = some (.slice Ay ys.length cy)) := Lib.hid fun W h => ⟨(h.cell lgg).trans g1, (h.cell lgx).trans x1, (h.cell lgy).trans y1⟩
  have KEE0 : Hid (∀ (W : World) (v : Value), Kept w W → (W.setCell ⟨g, 1, none⟩ v).cell? ⟨x, 0, none⟩ = some (.bool bx) ∧ (W.setCell ⟨g, 1, none⟩ v).cell? ⟨y, 0, none⟩ = some (.bool by')) := Lib.hid fun W v h => by
    refine ⟨?_, ?_⟩
    · rw [World.cell?_setCell_other _ _ _ _ (fun e => by injection e with e1 e2 e3; omega)]; exact (h.cell lgx).trans x0
    · rw [World.cell?_setCell_other _ _ _ _ (fun e => by injection e with e1 e2 e3; omega)]; exact (h.cell lgy).trans y0
  have HG := Lib.hid hg
  have HSG := Lib.hid hsg
  clear hsx hsy hlx hly hbx hby hg lx ly hsg hX hY hgl x1 y1 g1 x0 y0
  generalize X * Y = Z at *
  go_enter Tryd.func33, Tryd.ntmps33
  go_wp2_with fail
  refine wp_region_lastL _ _ _ (by simp only [List.dropLast]; rfl) (by simp only [List.getLast?_cons_cons, List.getLast?_singleton]; rfl) (fun W : World => W.cell? ⟨g, 1, none⟩ = some (.slice none 0 0) ∧ W.cell? ⟨x, 1, none⟩ = some (.slice Ax xs.length cx) ∧ W.cell? ⟨y, 1, none⟩ = some (.slice Ay ys.length cy)) (by kernel_rfl) (by kernel_rfl) (KEEP.out _ (by go_grown)) (fun hHeld => ?_)
  refine wpAnyH_take (i := 0) (oi := ?o0x0) (v := ?v0x0) ?hi0x0 (by kernel_rfl) (by kernel_rfl) (by kernel_rfl) ?hQ0x0 ?hy0x0 (by assumption) ?rest0x0
  case hi0x0 => (simp only [List.getElem?_toArray, List.getElem?_cons_zero]; rfl)
  case hQ0x0 => exact fun _ _ _ h => h
  case hy0x0 => (refine Or.inl ⟨by rfl, ?_⟩; intro W hSw; (try dsimp only at hSw); go_simp; (try with_reducible rfl))
  try simp only [Act.put, List.setIfInBounds_toArray, List.set_cons_zero, List.set_cons_succ]
  refine wpAnyH_take (i := 1) (oi := ?o1x1) (v := ?v1x1) ?hi1x1 (by kernel_rfl) (by kernel_rfl) (by kernel_rfl) ?hQ1x1 ?hy1x1 (by assumption) ?rest1x1
  case hi1x1 => (simp only [List.getElem?_toArray, List.getElem?_cons_succ, List.getElem?_cons_zero]; rfl)
  case hQ1x1 => exact fun _ _ _ h => h
  case hy1x1 => (refine Or.inl ⟨by rfl, ?_⟩; intro W hSw; (try dsimp only at hSw); go_simp; (try with_reducible rfl))
  try simp only [Act.put, List.setIfInBounds_toArray, List.set_cons_zero, List.set_cons_succ]
  refine wpAnyH_take (i := 2) (oi := ?o2x2) (v := ?v2x2) ?hi2x2 (by kernel_rfl) (by kernel_rfl) (by kernel_rfl) ?hQ2x2 ?hy2x2 (by assumption) ?rest2x2
  case hi2x2 => (simp only [List.getElem?_toArray, List.getElem?_cons_succ, List.getElem?_cons_zero]; rfl)
  case hQ2x2 => exact fun _ _ _ h => h
  case hy2x2 => (refine Or.inl ⟨by rfl, ?_⟩; intro W hSw; (try dsimp only at hSw); go_simp; (try with_reducible rfl))
  try simp only [Act.put, List.setIfInBounds_toArray, List.set_cons_zero, List.set_cons_succ]
  refine wpAnyH_take (i := 3) (oi := ?o3x3) (v := ?v3x3) ?hi3x3 (by kernel_rfl) (by kernel_rfl) (by kernel_rfl) ?hQ3x3 ?hy3x3 (by assumption) ?rest3x3
  case hi3x3 => (simp only [List.getElem?_toArray, List.getElem?_cons_succ, List.getElem?_cons_zero]; rfl)
  case hQ3x3 => exact fun _ _ _ h => h
  case hy3x3 => (refine Or.inl ⟨by rfl, ?_⟩; intro W hSw; (try dsimp only at hSw); go_simp; (try with_reducible rfl))
  try simp only [Act.put, List.setIfInBounds_toArray, List.set_cons_zero, List.set_cons_succ]
  refine wpAnyH_take (i := 4) (oi := ?o4x4) (v := ?v4x4) ?hi4x4 (by kernel_rfl) (by kernel_rfl) (by kernel_rfl) ?hQ4x4 ?hy4x4 (by assumption) ?rest4x4
  case hi4x4 => (simp only [List.getElem?_toArray, List.getElem?_cons_succ, List.getElem?_cons_zero]; rfl)
  case hQ4x4 => exact fun _ _ _ h => h
  case hy4x4 => (refine Or.inl ⟨by rfl, ?_⟩; intro W hSw; (try dsimp only at hSw); go_simp; (try with_reducible rfl))
  try simp only [Act.put, List.setIfInBounds_toArray, List.set_cons_zero, List.set_cons_succ]
  refine wpAnyH_take (i := 5) (oi := ?o5x5) (v := ?v5x5) ?hi5x5 (by kernel_rfl) (by kernel_rfl) (by kernel_rfl) ?hQ5x5 ?hy5x5 (by assumption) ?rest5x5
  case hi5x5 => (simp only [List.getElem?_toArray, List.getElem?_cons_succ, List.getElem?_cons_zero]; rfl)
  case hQ5x5 => exact fun _ _ _ h => h
  case hy5x5 => (refine Or.inl ⟨by rfl, ?_⟩; intro W hSw; (try dsimp only at hSw); go_simp; (try with_reducible rfl))
  try simp only [Act.put, List.setIfInBounds_toArray, List.set_cons_zero, List.set_cons_succ]
  refine wpAnyH_take (i := 6) (oi := ?o6x6) (v := ?v6x6) ?hi6x6 (by kernel_rfl) (by kernel_rfl) (by kernel_rfl) ?hQ6x6 ?hy6x6 (by assumption) ?rest6x6
  case hi6x6 => (simp only [List.getElem?_toArray, List.getElem?_cons_succ, List.getElem?_cons_zero]; rfl)
  case hQ6x6 => exact fun _ _ _ h => h
  case hy6x6 => (refine Or.inl ⟨by rfl, ?_⟩; intro W hSw; (try dsimp only at hSw); go_simp; (try with_reducible rfl))
  try simp only [Act.put, List.setIfInBounds_toArray, List.set_cons_zero, List.set_cons_succ]
  refine wpAnyH_take (i := 7) (oi := ?o7x7) (v := ?v7x7) ?hi7x7 (by kernel_rfl) (by kernel_rfl) (by kernel_rfl) ?hQ7x7 ?hy7x7 (by assumption) ?rest7x7
  case hi7x7 => (simp only [List.getElem?_toArray, List.getElem?_cons_succ, List.getElem?_cons_zero]; rfl)
  case hQ7x7 => exact fun _ _ _ h => h
  case hy7x7 => (refine Or.inl ⟨by rfl, ?_⟩; intro W hSw; (try dsimp only at hSw); go_simp; (try with_reducible rfl))
  try simp only [Act.put, List.setIfInBounds_toArray, List.set_cons_zero, List.set_cons_succ]
  refine wpAnyH_take (i := 8) (oi := ?o8x8) (v := ?v8x8) ?hi8x8 (by kernel_rfl) (by kernel_rfl) (by kernel_rfl) ?hQ8x8 ?hy8x8 (by assumption) ?rest8x8
  case hi8x8 => (simp only [List.getElem?_toArray, List.getElem?_cons_succ, List.getElem?_cons_zero]; rfl)
  case hQ8x8 => exact fun _ _ _ h => h
  case hy8x8 => (refine Or.inl ⟨by rfl, ?_⟩; intro W hSw; (try dsimp only at hSw); go_simp; (try with_reducible rfl))
  try simp only [Act.put, List.setIfInBounds_toArray, List.set_cons_zero, List.set_cons_succ]
  refine wpAnyH_take (i := 9) (oi := ?o9x9) (v := ?v9x9) ?hi9x9 (by kernel_rfl) (by kernel_rfl) (by kernel_rfl) ?hQ9x9 ?hy9x9 (by assumption) ?rest9x9
  case hi9x9 => (simp only [List.getElem?_toArray, List.getElem?_cons_succ, List.getElem?_cons_zero]; rfl)
  case hQ9x9 => exact fun _ _ _ h => h
  case hy9x9 => (refine Or.inl ⟨by rfl, ?_⟩; intro W hSw; (try dsimp only at hSw); go_simp; (try with_reducible rfl))
  try simp only [Act.put, List.setIfInBounds_toArray, List.set_cons_zero, List.set_cons_succ]
  refine wpAnyH_take (i := 10) (oi := ?o10x10) (v := ?v10x10) ?hi10x10 (by kernel_rfl) (by kernel_rfl) (by kernel_rfl) ?hQ10x10 ?hy10x10 (by assumption) ?rest10x10
  case hi10x10 => (simp only [List.getElem?_toArray, List.getElem?_cons_succ, List.getElem?_cons_zero]; rfl)
  case hQ10x10 => exact fun _ _ _ h => h
  case hy10x10 => (refine Or.inl ⟨by rfl, ?_⟩; intro W hSw; (try dsimp only at hSw); go_simp; (try with_reducible rfl))
  try simp only [Act.put, List.setIfInBounds_toArray, List.set_cons_zero, List.set_cons_succ]
  refine wpAnyH_take (i := 11) (oi := ?o11x11) (v := ?v11x11) ?hi11x11 (by kernel_rfl) (by kernel_rfl) (by kernel_rfl) ?hQ11x11 ?hy11x11 (by assumption) ?rest11x11
  case hi11x11 => (simp only [List.getElem?_toArray, List.getElem?_cons_succ, List.getElem?_cons_zero]; rfl)
  case hQ11x11 => exact fun _ _ _ h => h
  case hy11x11 => (refine Or.inl ⟨by rfl, ?_⟩; intro W hSw; (try dsimp only at hSw); go_simp; (try with_reducible rfl))
  try simp only [Act.put, List.setIfInBounds_toArray, List.set_cons_zero, List.set_cons_succ]
  refine wpAnyH_take (i := 12) (oi := ?o12x12) (v := ?v12x12) ?hi12x12 (by kernel_rfl) (by kernel_rfl) (by kernel_rfl) ?hQ12x12 ?hy12x12 (by assumption) ?rest12x12
  case hi12x12 => (simp only [List.getElem?_toArray, List.getElem?_cons_succ, List.getElem?_cons_zero]; rfl)
  case hQ12x12 => exact fun _ _ _ h => h
  case hy12x12 => (refine Or.inl ⟨by rfl, ?_⟩; intro W hSw; (try dsimp only at hSw); go_simp; (try with_reducible rfl))
  try simp only [Act.put, List.setIfInBounds_toArray, List.set_cons_zero, List.set_cons_succ]
  refine wpAnyH_take (i := 13) (oi := ?o13x13) (v := ?v13x13) ?hi13x13 (by kernel_rfl) (by kernel_rfl) (by kernel_rfl) ?hQ13x13 ?hy13x13 (by assumption) ?rest13x13
  case hi13x13 => (simp only [List.getElem?_toArray, List.getElem?_cons_succ, List.getElem?_cons_zero]; rfl)
  case hQ13x13 => exact fun _ _ _ h => h
  case hy13x13 => (refine Or.inl ⟨by rfl, ?_⟩; intro W hSw; (try dsimp only at hSw); go_simp; (try with_reducible rfl))
  try simp only [Act.put, List.setIfInBounds_toArray, List.set_cons_zero, List.set_cons_succ]
  refine wpAnyH_ready (rs := [14]) (by kernel_rfl) (by simp) ?_
  refine (AllReadyH.cons rfl (fun K hK => ?_) AllReadyH.nil)
  go_simp
  (with_reducible refine Calls.mono (HM.out _ ?_) ?_)
  · go_grown
  rintro e w1 ⟨A1, c1, ws, rfl, hs1, hf1, hl1, hk1⟩
  have hL1 : Kept w w1 := Below.trans (by go_grown) (hk1.mono (by go_size))
  have hz1 := hL1.size
  refine hK.out _ _ ?_ (fun hHeld => ?_)
  · (exact KEEP.out _ (by go_grown))
  clear hK K
  try simp only [Act.put, List.setIfInBounds_toArray, List.set_cons_zero, List.set_cons_succ]
  refine wpAnyH_take (i := 15) (oi := ?o15x14) (v := ?v15x14) ?hi15x14 (by kernel_rfl) (by kernel_rfl) (by kernel_rfl) ?hQ15x14 ?hy15x14 (by assumption) ?rest15x14
  case hi15x14 => (simp only [List.getElem?_toArray, List.getElem?_cons_succ, List.getElem?_cons_zero]; rfl)
  case hQ15x14 => exact fun _ _ _ h => h
  case hy15x14 => (refine Or.inl ⟨by rfl, ?_⟩; intro W hSw; (try dsimp only at hSw); go_simp; (try with_reducible rfl))
  try simp only [Act.put, List.setIfInBounds_toArray, List.set_cons_zero, List.set_cons_succ]
  refine wpAnyH_take (i := 16) (oi := ?o16x15) (v := ?v16x15) ?hi16x15 (by kernel_rfl) (by kernel_rfl) (by kernel_rfl) ?hQ16x15 ?hy16x15 (by assumption) ?rest16x15
  case hi16x15 => (simp only [List.getElem?_toArray, List.getElem?_cons_succ, List.getElem?_cons_zero]; rfl)
  case hQ16x15 => exact fun _ _ _ h => h
  case hy16x15 => (refine Or.inl ⟨by rfl, ?_⟩; intro W hSw; (try dsimp only at hSw); go_simp; (try with_reducible rfl))
  try simp only [Act.put, List.setIfInBounds_toArray, List.set_cons_zero, List.set_cons_succ]
  refine wpAnyH_done (by kernel_rfl) ?_ _
  simp only [lastQ]
  have hff : Fr w.heap.size A1 := fun a ha => ⟨Nat.le_trans (by go_size) (hf1 a ha).1, (hf1 a ha).2⟩
  have hwl : decide (Z.natAbs = 0) = decide (ws.length = 0) := by
    by_cases e : Z.natAbs = 0
    · rw [decide_eq_true e, (hl1.nil_iff.2 e)]; rfl
    · have := hl1.len_pos e
      rw [decide_eq_false e, decide_eq_false (by omega)]
  have hsg := HSG.out
  rw [hwl] at hsg
  obtain ⟨q1, q2, q3, q4, q5⟩ := fin_store HG.out hL1 hs1 hff hl1 hsg
  have FIN := Lib.hid q5
  obtain ⟨k1, k2⟩ := KEE0.out w1 (.slice A1 ws.length c1) hL1
  have k0 : (w1.setCell ⟨g, 1, none⟩ (.slice A1 ws.length c1)).cell? ⟨g, 1, none⟩ = some (.slice A1 ws.length c1) := (Blk.set ((hL1.block g lgg).trans HG.out) 1 (.slice A1 ws.length c1)).cell 1
  clear hff hwl hsg hs1 hf1 hl1 hk1 q5
  go_wp2_with fail
  obtain ⟨_, hbif, hgr⟩ := FIN.out
  have FIN2 := Lib.hid (show BIf w.heap.size ((w1.setCell ⟨g, 1, none⟩ (.slice A1 ws.length c1)).setCell ⟨g, 0, none⟩ (.bool (!decide (ws.length = 0) && (bx != by')))) g Z ∧ w.grownBy ((w1.setCell ⟨g, 1, none⟩ (.slice A1 ws.length c1)).setCell ⟨g, 0, none⟩ (.bool (!decide (ws.length = 0) && (bx != by')))) (some g) from ⟨hbif, hgr⟩)
  clear FIN hbif hgr
  generalize w1.setCell ⟨g, 1, none⟩ (.slice A1 ws.length c1) = w2 at *
  generalize ws.length = n at *
  by_cases hw0 : n = 0
  · subst hw0
    have n1 : ¬ ((0 : Int) < ((0 : Nat) : Int)) := by omega
    have hw0 : (0 : Nat) = 0 := rfl
    rw [decide_eq_true hw0] at FIN2
    simp only [Bool.not_true, Bool.false_and] at FIN2
    refine wp_region_lastQuiet _ _ _ (by simp only [List.dropLast]; rfl) (by simp only [List.getLast?_cons_cons, List.getLast?_singleton]; rfl) (by kernel_rfl) (by kernel_rfl) (by kernel_rfl) ?_
    repeat (first | go_big_quiet_step (fail) | quiet_step (fail))
    refine wpQuiet_nil ?_
    rintro _ ⟨nq, rfl⟩
    have q3d : (w2.drewN nq).cell? ⟨g, 0, none⟩ = some (.bool false) := q3
    have q4d : (w2.drewN nq).frozen? ⟨g, 0, none⟩ = false := q4
    have hkq : Kept w2 (w2.drewN nq) := below_drewN (Below.refl _ _) nq
    have FIN3 := Lib.hid (RetDrewN nq FIN2.out)
    clear FIN2 q3 q4 k0 k1 k2
    generalize w2.drewN nq = w3 at *
    simp only [lastQ]
    go_wp2_with fail
    go_end0
    exact ⟨rfl, FIN3.out⟩
  · have n1 : (0 : Int) < (n : Int) := by omega
    have n2 : 0 < n := by omega
    rw [decide_eq_false hw0] at FIN2
    simp only [Bool.not_false, Bool.true_and] at FIN2
    refine wp_region_lastQuiet _ _ _ (by simp only [List.dropLast]; rfl) (by simp only [List.getLast?_cons_cons, List.getLast?_singleton]; rfl) (by kernel_rfl) (by kernel_rfl) (by kernel_rfl) ?_
    repeat (first | go_big_quiet_step (fail) | quiet_step (fail))
    refine wpQuiet_nil ?_
    rintro _ ⟨nq, rfl⟩
    have q3d : (w2.drewN nq).cell? ⟨g, 0, none⟩ = some (.bool false) := q3
    have q4d : (w2.drewN nq).frozen? ⟨g, 0, none⟩ = false := q4
    have hkq : Kept w2 (w2.drewN nq) := below_drewN (Below.refl _ _) nq
    have FIN3 := Lib.hid (RetDrewN nq FIN2.out)
    clear FIN2 q3 q4 k0 k1 k2
    generalize w2.drewN nq = w3 at *
    simp only [lastQ]
    go_wp2_with fail
    go_end0
    exact ⟨rfl, FIN3.out⟩
end Go.Proofs.YtikjdibngkcpkaaDoor
