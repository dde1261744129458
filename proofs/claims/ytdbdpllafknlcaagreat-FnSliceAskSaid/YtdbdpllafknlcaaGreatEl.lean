/- The law FnSliceAsk walked. -/
import Derived.Test.YtdbdpllafknlcaaGreatEk
namespace Go.Proofs.YtdbdpllafknlcaaGreat
open Go.ChangeShapes Go.WideShapes Go.ChangeAt Go.RowKit
set_option linter.unusedVariables false
/-- a part that has a number has an int32 -/
def Rng (o : Option Int) : Prop := ∀ z, o = some z → -2147483648 ≤ z ∧ z ≤ 2147483647
theorem IW.rng {w : World} {k : Int} {b : Bool} {A : Option Addr} {n c : Nat} {o : Option Int} (h : IW w k b A n c (some o)) : Rng o := by
  rintro z rfl
  exact h.num.2.2.2
theorem idx_range (n : Nat) (hn : n ≤ 2147483647) (o : Option Int) (d : Int) (ho : Rng o) (d1 : -2147483648 ≤ d) (d2 : d ≤ 2147483647) : -2147483648 ≤ idx n o d ∧ idx n o d ≤ 2147483647 := by
  cases o with
  | none => exact ⟨d1, d2⟩
  | some z =>
    have := ho z rfl
    unfold idx
    simp only
    split <;> omega
theorem clI_range (n : Nat) (x : Int) : 0 ≤ clI n x ∧ clI n x ≤ n := by
  unfold clI
  split
  · omega
  · split <;> omega
theorem ask_range (n : Nat) (hn : n ≤ 2147483647) (s : Int) (hs : s ≠ 0) (lo hi : Option Int) (h1 : Rng lo) (h2 : Rng hi) :
    (-2147483648 ≤ aI n s lo hi ∧ aI n s lo hi ≤ 2147483647) ∧ (-2147483648 ≤ bI n s lo hi ∧ bI n s lo hi ≤ 2147483647) ∧ (s < 0 → -1 ≤ bI n s lo hi ∧ bI n s lo hi ≤ aI n s lo hi) := by
  have i1 := idx_range n hn lo ((n : Int) - 1) h1 (by omega) (by omega)
  have i2 := idx_range n hn hi (-1) h2 (by omega) (by omega)
  have c1 := clI_range n (idx n lo 0)
  have c2 := clI_range n (idx n hi n)
  unfold aI bI
  by_cases h : 0 < s
  · simp only [if_pos h]
    refine ⟨by omega, ?_, by omega⟩
    split <;> omega
  · simp only [if_neg h]
    generalize idx n lo ((n : Int) - 1) = x at *
    generalize idx n hi (-1) = y at *
    refine ⟨?_, ?_, fun _ => ?_⟩ <;> repeat' split
    all_goals omega
theorem fR_range (n : Nat) (hn : n ≤ 2147483647) (s : Int) (lo : Option Int) : -2147483648 ≤ fR n s lo ∧ fR n s lo ≤ 2147483647 := by
  unfold fR endR
  cases lo with
  | none => simp only; split <;> omega
  | some z => simp only; split <;> omega
theorem tR_range (n : Nat) (hn : n ≤ 2147483647) (s : Int) (hi : Option Int) : -2147483648 ≤ tR n s hi ∧ tR n s hi ≤ 2147483647 := by
  unfold tR endR
  cases hi with
  | none => simp only; split <;> omega
  | some z => simp only; split <;> omega
/-- all that the law asks of a slice that is not refused -/
theorem ask_all (n : Nat) (hn : n ≤ 2147483647) (s : Int) (hs : s ≠ 0) (lo hi : Option Int) (h1 : Rng lo) (h2 : Rng hi) :
    ∃ f t a b m : Int, f = fR n s lo ∧ t = tR n s hi ∧ a = aI n s lo hi ∧ b = bI n s lo hi ∧ m = cnt f t s ∧ m = cnt a b s ∧ (-2147483648 ≤ f ∧ f ≤ 2147483647) ∧ (-2147483648 ≤ t ∧ t ≤ 2147483647) ∧ (-2147483648 ≤ a ∧ a ≤ 2147483647) ∧ (-2147483648 ≤ b ∧ b ≤ 2147483647) ∧
      ((0 < m ∧ a = f) ∨ m ≤ 0) ∧ ((0 < s ∧ 0 ≤ a ∧ a ≤ b ∧ b ≤ n) ∨ (s < 0 ∧ -1 ≤ b ∧ b ≤ a ∧ a < max (n : Int) 1) ∨ (s < 0 ∧ -1 ≤ b ∧ b ≤ a ∧ ¬ a < max (n : Int) 1 ∧ m = 0)) := by
  obtain ⟨r1, r2, r3⟩ := ask_range n hn s hs lo hi h1 h2
  refine ⟨_, _, _, _, _, rfl, rfl, rfl, rfl, rfl, (ask_count n s lo hi (by omega) hs).symm, fR_range n hn s lo, tR_range n hn s hi, r1, r2, ?_, ?_⟩
  · by_cases hm : 0 < cnt (fR n s lo) (tR n s hi) s
    · exact .inl ⟨hm, ask_first n s lo hi (by omega) hs hm⟩
    · exact .inr (by omega)
  · rcases ask_bounds n s lo hi (by omega) hs with h | h | h
    · exact .inl h
    · exact .inr (.inl h)
    · rcases Int.lt_or_gt_of_ne hs with hs' | hs'
      · by_cases ha : aI n s lo hi < max (n : Int) 1
        · exact .inr (.inl ⟨hs', (r3 hs').1, (r3 hs').2, ha⟩)
        · exact .inr (.inr ⟨hs', (r3 hs').1, (r3 hs').2, ha, h⟩)
      · refine .inl ⟨hs', ?_⟩
        have c1 := clI_range n (idx n lo 0)
        have c2 := clI_range n (idx n hi n)
        unfold aI bI
        simp only [if_pos hs']
        refine ⟨by omega, ?_, ?_⟩
        · split <;> omega
        · split <;> omega
set_option maxRecDepth 100000 in
theorem zzFits11_any (cs : Array Value) (w : World) :
    Calls Tryz.prog 4 #[.agg cs] w fun e w' => e = .returned (.bool true) ∧ Kept w w' := by
  have hk : Kept w (w.alloc (.cells cs 27)) := (Below.refl _ _).alloc (Nat.le_refl _) _
  go_enter Tryz.func4, Tryz.ntmps4
  go_wp2_with fail
  go_ret
  exact ⟨rfl, hk⟩
theorem and31 (n : Int) : ∃ N : Nat, bits .and .i32 n 2147483647 = (N : Int) ∧ N ≤ 2147483647 := by
  refine ⟨(BitVec.ofInt 32 n).toNat % 2147483648, ?_, by omega⟩
  show IntKind.i32.wrap ((BitVec.ofInt 32 n &&& BitVec.ofInt 32 2147483647).toNat : Int) = _
  have e : (BitVec.ofInt 32 2147483647).toNat = 2147483647 := by decide
  rw [BitVec.toNat_and, e, Nat.and_two_pow_sub_one_eq_mod _ 31, IntKind.wrap_i32]
  omega
theorem there_of {w : World} {g : Nat} {t : TypeId} {cs : Array Value} (h : Blk w g t cs) (o n : Nat) (hn : o + n ≤ cs.size) : w.there g o n := fun j hj =>
  ⟨by rw [h.cell]; simp [show o + j < cs.size by omega], h.frozen _⟩
theorem IW_nil (w : World) : IV w 0 false none 0 0 (some none) := rfl
/-- a part as Steps32 makes it, in blocks from B on -/
def NP (w : World) (B : Nat) (P : List Value) (o : Option (Option Int)) : Prop := ∃ k b A n c, P = [.int .i64 k, .bool b, .slice A n c, .int .u64 0, .string ⟨#[]⟩, .slice none 0 0] ∧ IW w k b A n c o ∧ Fz B A
theorem NP.below {w w' : World} {B : Nat} {P : List Value} {o : Option (Option Int)} (h : NP w B P o) (hb : Kept w w') : NP w' B P o := by
  obtain ⟨k, b, A, n, c, e, h1, h2⟩ := h
  exact ⟨k, b, A, n, c, e, h1.below hb, h2⟩
theorem NP.far {w w' : World} {B g : Nat} {P : List Value} {o : Option (Option Int)} (h : NP w B P o) (hg : g < B) (hk : ∀ i, i < w.heap.size → i ≠ g → w'.heap[i]? = w.heap[i]?) : NP w' B P o := by
  obtain ⟨k, b, A, n, c, e, h1, h2⟩ := h
  exact ⟨k, b, A, n, c, e, h1.far h2 hg hk, h2⟩
theorem heap_setCells (g : Nat) : ∀ (vs : List Value) (o : Nat) (w : World) (i : Nat), i ≠ g → (w.setCells g o vs).heap[i]? = w.heap[i]?
  | [], _, _, _, _ => rfl
  | v :: r, o, w, i, h => by
    rw [World.setCells, heap_setCells g r (o + 1) _ i h]
    exact heap_setCell_other w ⟨g, o, none⟩ i v h
theorem kept_setCells {w0 : World} {g : Nat} (hg : w0.heap.size ≤ g) : ∀ (vs : List Value) (o : Nat) (w : World), Kept w0 w → Kept w0 (w.setCells g o vs)
  | [], _, _, h => h
  | v :: r, o, w, h => by
    rw [World.setCells]
    exact kept_setCells hg r (o + 1) _ (h.setCell (p := ⟨g, o, none⟩) hg v)
set_option maxRecDepth 100000 in
set_option maxHeartbeats 4000000 in
theorem FnSliceAsk_any (n : Int) (k0 q0 k1 q1 k2 q2 : Int) (b0 b1 b2 : Bool) (A0 A1 A2 K0 K1 K2 : Option Addr) (c0 c1 c2 m0 m1 m2 e0 e1 e2 : Nat) (T0 T1 T2 : ByteArray) (l0 l1 l2 : List Nat)
    (hl0 : l0.length ≤ 140737488351232) (hd0 : ∀ d ∈ l0, d < 256) (hl1 : l1.length ≤ 140737488351232) (hd1 : ∀ d ∈ l1, d < 256) (hl2 : l2.length ≤ 140737488351232) (hd2 : ∀ d ∈ l2, d < 256) (w : World) (hs0 : Sl w A0 c0 (by8 l0)) (hs1 : Sl w A1 c1 (by8 l1)) (hs2 : Sl w A2 c2 (by8 l2)) :
    Calls Tryz.prog 3 #[.int .i32 n, .agg #[.int .i64 k0, .bool b0, .slice A0 l0.length c0, .int .u64 q0, .string T0, .slice K0 m0 e0, .int .i64 k1, .bool b1, .slice A1 l1.length c1, .int .u64 q1, .string T1, .slice K1 m1 e1, .int .i64 k2, .bool b2, .slice A2 l2.length c2, .int .u64 q2, .string T2, .slice K2 m2 e2]] w fun e w' => e = .returned (.bool true) ∧ Kept w w' := by
  obtain ⟨N, hN, hN2⟩ := and31 n
  have HS0 := fun W (k : Kept w W) => Lib.hid (Steps32_any k0 q0 b0 A0 K0 c0 m0 e0 T0 l0 hl0 hd0 W (hs0.below k))
  have HS1 := fun W (k : Kept w W) => Lib.hid (Steps32_any k1 q1 b1 A1 K1 c1 m1 e1 T1 l1 hl1 hd1 W (hs1.below k))
  have HS2 := fun W (k : Kept w W) => Lib.hid (Steps32_any k2 q2 b2 A2 K2 c2 m2 e2 T2 l2 hl2 hd2 W (hs2.below k))
  clear hs0 hs1 hs2 hl0 hl1 hl2 hd0 hd1 hd2
  obtain ⟨CS, hcs⟩ : ∃ CS : Array Value, CS = #[.int .i64 k0, .bool b0, .slice A0 l0.length c0, .int .u64 q0, .string T0, .slice K0 m0 e0, .int .i64 k1, .bool b1, .slice A1 l1.length c1, .int .u64 q1, .string T1, .slice K1 m1 e1, .int .i64 k2, .bool b2, .slice A2 l2.length c2, .int .u64 q2, .string T2, .slice K2 m2 e2] := ⟨_, rfl⟩
  rw [← hcs]
  have hz : (Tryz.prog.info? 27).map (·.size) = some CS.size := by rw [hcs]; kernel_rfl
  have HBL : Hid (Blk (w.alloc (.cells CS 27)) w.heap.size 27 CS) := Lib.hid (Blk.new w _ _)
  have HK : Hid (Kept w (w.alloc (.cells CS 27))) := Lib.hid ((Below.refl _ _).alloc (Nat.le_refl _) _)
  have HCS := Lib.hid hcs
  clear hcs
  go_enter Tryz.func3, Tryz.ntmps3
  go_wp2_with (refine wpList_load_blk rfl 27 (.tmp 3) rfl w.heap.size rfl 27 CS HBL.out _ Tryz.underlying27 rfl hz ?_)
  refine (zzFits11_any _ _).mono ?_
  rintro e W1 ⟨rfl, hk1⟩
  have hb1 := HBL.out.below hk1
  have HK1 := Lib.hid (Kept.trans HK.out hk1)
  rw [HCS.out] at hb1
  have HB1 := Lib.hid hb1
  clear hb1 hk1 HK HBL hz
  go_wp2_with fail
  go_loopw [28] (fun iv wr => ∃ k : Nat, iv = .int .i64 k ∧ k ≤ 3 ∧ ∃ P0 P1 P2 : List Value, Blk wr w.heap.size 27 (P0 ++ P1 ++ P2).toArray ∧ (k ≤ 0 → P0 = [.int .i64 k0, .bool b0, .slice A0 l0.length c0, .int .u64 q0, .string T0, .slice K0 m0 e0]) ∧ (k ≤ 1 → P1 = [.int .i64 k1, .bool b1, .slice A1 l1.length c1, .int .u64 q1, .string T1, .slice K1 m1 e1]) ∧ (k ≤ 2 → P2 = [.int .i64 k2, .bool b2, .slice A2 l2.length c2, .int .u64 q2, .string T2, .slice K2 m2 e2]) ∧
      (1 ≤ k → ∃ o, NP wr (w.heap.size + 1) P0 o) ∧ (2 ≤ k → ∃ o, NP wr (w.heap.size + 1) P1 o) ∧ (3 ≤ k → ∃ o, NP wr (w.heap.size + 1) P2 o) ∧ Kept w wr) (fun iv _ => 3 - (intOf iv).toNat)
  case atStart => exact ⟨0, rfl, by omega, [.int .i64 k0, .bool b0, .slice A0 l0.length c0, .int .u64 q0, .string T0, .slice K0 m0 e0], [.int .i64 k1, .bool b1, .slice A1 l1.length c1, .int .u64 q1, .string T1, .slice K1 m1 e1], [.int .i64 k2, .bool b2, .slice A2 l2.length c2, .int .u64 q2, .string T2, .slice K2 m2 e2], HB1.out, fun _ => rfl, fun _ => rfl, fun _ => rfl, fun h => absurd h (by omega), fun h => absurd h (by omega), fun h => absurd h (by omega), HK1.out⟩
  case round =>
    clear HB1 HK1 HCS
    obtain ⟨k, rfl, hk, P0, P1, P2, hb, d0, d1, d2, n0, n1, n2, hkw⟩ := hrel
    have hgl := hb.lt
    obtain rfl | rfl | rfl | rfl : k = 0 ∨ k = 1 ∨ k = 2 ∨ k = 3 := by omega
    · obtain rfl := d0 (by omega)
      obtain rfl := d1 (by omega)
      obtain rfl := d2 (by omega)
      have hb1 : Blk wr w.heap.size 27 #[.int .i64 k0, .bool b0, .slice A0 l0.length c0, .int .u64 q0, .string T0, .slice K0 m0 e0, .int .i64 k1, .bool b1, .slice A1 l1.length c1, .int .u64 q1, .string T1, .slice K1 m1 e1, .int .i64 k2, .bool b2, .slice A2 l2.length c2, .int .u64 q2, .string T2, .slice K2 m2 e2] := hb
      have g0 : wr.cell? ⟨w.heap.size, 0, none⟩ = some (.int .i64 k0) := hb1.cell 0
      have g1 : wr.cell? ⟨w.heap.size, 1, none⟩ = some (.bool b0) := hb1.cell 1
      have g2 : wr.cell? ⟨w.heap.size, 2, none⟩ = some (.slice A0 l0.length c0) := hb1.cell 2
      have g3 : wr.cell? ⟨w.heap.size, 3, none⟩ = some (.int .u64 q0) := hb1.cell 3
      have g4 : wr.cell? ⟨w.heap.size, 4, none⟩ = some (.string T0) := hb1.cell 4
      have g5 : wr.cell? ⟨w.heap.size, 5, none⟩ = some (.slice K0 m0 e0) := hb1.cell 5
      have HS := HS0 wr hkw
      have HB := Lib.hid hb1
      have HKW := Lib.hid hkw
      clear hb hb1 d0 d1 d2 n0 n1 n2 hkw HS0 HS1 HS2
      go_wp2_with fail
      refine HS.out.mono ?_
      rintro e w1 ⟨o0, kk0, bb0, AA0, nn0, cc0, rfl, hiw, hfz, hk1⟩
      have hb2 := HB.out.below hk1
      obtain ⟨W2, hW2⟩ : ∃ W2, W2 = w1.setCells w.heap.size 0 (#[.int .i64 kk0, .bool bb0, .slice AA0 nn0 cc0, .int .u64 0, .string ⟨#[]⟩, .slice none 0 0] : Array Value).toList := ⟨_, rfl⟩
      have hst := run_storeVar_mid (P := Tryz.prog) w1 w.heap.size 0 26 #[.int .i64 kk0, .bool bb0, .slice AA0 nn0 cc0, .int .u64 0, .string ⟨#[]⟩, .slice none 0 0] (there_of hb2 0 6 (by simp)) info_Val (by simp [Value.oneCell'])
      rw [← hW2] at hst
      have HB2 : Hid (Blk W2 w.heap.size 27 #[.int .i64 kk0, .bool bb0, .slice AA0 nn0 cc0, .int .u64 0, .string ⟨#[]⟩, .slice none 0 0, .int .i64 k1, .bool b1, .slice A1 l1.length c1, .int .u64 q1, .string T1, .slice K1 m1 e1, .int .i64 k2, .bool b2, .slice A2 l2.length c2, .int .u64 q2, .string T2, .slice K2 m2 e2]) := Lib.hid (by rw [hW2]; exact ((((((hb2.set 0 (.int .i64 kk0)).set 1 (.bool bb0)).set 2 (.slice AA0 nn0 cc0)).set 3 (.int .u64 0)).set 4 (.string ⟨#[]⟩)).set 5 (.slice none 0 0)))
      have hfar : ∀ i, i < w1.heap.size → i ≠ w.heap.size → W2.heap[i]? = w1.heap[i]? := fun i _ hi => by rw [hW2]; exact heap_setCells _ _ _ _ _ hi
      have HNn : Hid (NP W2 (w.heap.size + 1) [.int .i64 kk0, .bool bb0, .slice AA0 nn0 cc0, .int .u64 0, .string ⟨#[]⟩, .slice none 0 0] o0) := Lib.hid (NP.far ⟨kk0, bb0, AA0, nn0, cc0, rfl, hiw, hfz.mono (by omega)⟩ (by omega) hfar)
      have HK2 : Hid (Kept w W2) := Lib.hid (by rw [hW2]; exact kept_setCells (Nat.le_refl _) _ _ _ (Kept.trans HKW.out hk1))
      clear hW2 hfar hiw hfz hk1 hb2 HS HB HKW
      simp [go_sem] at hst
      go_wp2_with fail
      exact ⟨⟨1, by go_num, by omega, [.int .i64 kk0, .bool bb0, .slice AA0 nn0 cc0, .int .u64 0, .string ⟨#[]⟩, .slice none 0 0], [.int .i64 k1, .bool b1, .slice A1 l1.length c1, .int .u64 q1, .string T1, .slice K1 m1 e1], [.int .i64 k2, .bool b2, .slice A2 l2.length c2, .int .u64 q2, .string T2, .slice K2 m2 e2], HB2.out, fun h => absurd h (by omega), fun _ => rfl, fun _ => rfl, fun _ => ⟨_, HNn.out⟩, fun h => absurd h (by omega), fun h => absurd h (by omega), HK2.out⟩, by simp [intOf]⟩
    · obtain ⟨o0, kk0, bb0, AA0, nn0, cc0, rfl, iw0, fz0⟩ := n0 (by omega)
      obtain rfl := d1 (by omega)
      obtain rfl := d2 (by omega)
      have hb1 : Blk wr w.heap.size 27 #[.int .i64 kk0, .bool bb0, .slice AA0 nn0 cc0, .int .u64 0, .string ⟨#[]⟩, .slice none 0 0, .int .i64 k1, .bool b1, .slice A1 l1.length c1, .int .u64 q1, .string T1, .slice K1 m1 e1, .int .i64 k2, .bool b2, .slice A2 l2.length c2, .int .u64 q2, .string T2, .slice K2 m2 e2] := hb
      have g0 : wr.cell? ⟨w.heap.size, 6, none⟩ = some (.int .i64 k1) := hb1.cell 6
      have g1 : wr.cell? ⟨w.heap.size, 7, none⟩ = some (.bool b1) := hb1.cell 7
      have g2 : wr.cell? ⟨w.heap.size, 8, none⟩ = some (.slice A1 l1.length c1) := hb1.cell 8
      have g3 : wr.cell? ⟨w.heap.size, 9, none⟩ = some (.int .u64 q1) := hb1.cell 9
      have g4 : wr.cell? ⟨w.heap.size, 10, none⟩ = some (.string T1) := hb1.cell 10
      have g5 : wr.cell? ⟨w.heap.size, 11, none⟩ = some (.slice K1 m1 e1) := hb1.cell 11
      have HS := HS1 wr hkw
      have HB := Lib.hid hb1
      have HKW := Lib.hid hkw
      have HN0 : Hid (NP wr (w.heap.size + 1) [.int .i64 kk0, .bool bb0, .slice AA0 nn0 cc0, .int .u64 0, .string ⟨#[]⟩, .slice none 0 0] o0) := Lib.hid ⟨kk0, bb0, AA0, nn0, cc0, rfl, iw0, fz0⟩
      clear hb hb1 d0 d1 d2 n0 n1 n2 hkw HS0 HS1 HS2 iw0 fz0
      go_wp2_with fail
      refine HS.out.mono ?_
      rintro e w1 ⟨o1, kk1, bb1, AA1, nn1, cc1, rfl, hiw, hfz, hk1⟩
      have hb2 := HB.out.below hk1
      obtain ⟨W2, hW2⟩ : ∃ W2, W2 = w1.setCells w.heap.size 6 (#[.int .i64 kk1, .bool bb1, .slice AA1 nn1 cc1, .int .u64 0, .string ⟨#[]⟩, .slice none 0 0] : Array Value).toList := ⟨_, rfl⟩
      have hst := run_storeVar_mid (P := Tryz.prog) w1 w.heap.size 6 26 #[.int .i64 kk1, .bool bb1, .slice AA1 nn1 cc1, .int .u64 0, .string ⟨#[]⟩, .slice none 0 0] (there_of hb2 6 6 (by simp)) info_Val (by simp [Value.oneCell'])
      rw [← hW2] at hst
      have HB2 : Hid (Blk W2 w.heap.size 27 #[.int .i64 kk0, .bool bb0, .slice AA0 nn0 cc0, .int .u64 0, .string ⟨#[]⟩, .slice none 0 0, .int .i64 kk1, .bool bb1, .slice AA1 nn1 cc1, .int .u64 0, .string ⟨#[]⟩, .slice none 0 0, .int .i64 k2, .bool b2, .slice A2 l2.length c2, .int .u64 q2, .string T2, .slice K2 m2 e2]) := Lib.hid (by rw [hW2]; exact ((((((hb2.set 6 (.int .i64 kk1)).set 7 (.bool bb1)).set 8 (.slice AA1 nn1 cc1)).set 9 (.int .u64 0)).set 10 (.string ⟨#[]⟩)).set 11 (.slice none 0 0)))
      have hfar : ∀ i, i < w1.heap.size → i ≠ w.heap.size → W2.heap[i]? = w1.heap[i]? := fun i _ hi => by rw [hW2]; exact heap_setCells _ _ _ _ _ hi
      have HNn : Hid (NP W2 (w.heap.size + 1) [.int .i64 kk1, .bool bb1, .slice AA1 nn1 cc1, .int .u64 0, .string ⟨#[]⟩, .slice none 0 0] o1) := Lib.hid (NP.far ⟨kk1, bb1, AA1, nn1, cc1, rfl, hiw, hfz.mono (by omega)⟩ (by omega) hfar)
      have HM0 := Lib.hid ((HN0.out.below hk1).far (by omega) hfar)
      have HK2 : Hid (Kept w W2) := Lib.hid (by rw [hW2]; exact kept_setCells (Nat.le_refl _) _ _ _ (Kept.trans HKW.out hk1))
      clear hW2 hfar hiw hfz hk1 hb2 HS HB HKW HN0
      simp [go_sem] at hst
      go_wp2_with fail
      exact ⟨⟨2, by go_num, by omega, [.int .i64 kk0, .bool bb0, .slice AA0 nn0 cc0, .int .u64 0, .string ⟨#[]⟩, .slice none 0 0], [.int .i64 kk1, .bool bb1, .slice AA1 nn1 cc1, .int .u64 0, .string ⟨#[]⟩, .slice none 0 0], [.int .i64 k2, .bool b2, .slice A2 l2.length c2, .int .u64 q2, .string T2, .slice K2 m2 e2], HB2.out, fun h => absurd h (by omega), fun h => absurd h (by omega), fun _ => rfl, fun _ => ⟨_, HM0.out⟩, fun _ => ⟨_, HNn.out⟩, fun h => absurd h (by omega), HK2.out⟩, by simp [intOf]⟩
    · obtain ⟨o0, kk0, bb0, AA0, nn0, cc0, rfl, iw0, fz0⟩ := n0 (by omega)
      obtain ⟨o1, kk1, bb1, AA1, nn1, cc1, rfl, iw1, fz1⟩ := n1 (by omega)
      obtain rfl := d2 (by omega)
      have hb1 : Blk wr w.heap.size 27 #[.int .i64 kk0, .bool bb0, .slice AA0 nn0 cc0, .int .u64 0, .string ⟨#[]⟩, .slice none 0 0, .int .i64 kk1, .bool bb1, .slice AA1 nn1 cc1, .int .u64 0, .string ⟨#[]⟩, .slice none 0 0, .int .i64 k2, .bool b2, .slice A2 l2.length c2, .int .u64 q2, .string T2, .slice K2 m2 e2] := hb
      have g0 : wr.cell? ⟨w.heap.size, 12, none⟩ = some (.int .i64 k2) := hb1.cell 12
      have g1 : wr.cell? ⟨w.heap.size, 13, none⟩ = some (.bool b2) := hb1.cell 13
      have g2 : wr.cell? ⟨w.heap.size, 14, none⟩ = some (.slice A2 l2.length c2) := hb1.cell 14
      have g3 : wr.cell? ⟨w.heap.size, 15, none⟩ = some (.int .u64 q2) := hb1.cell 15
      have g4 : wr.cell? ⟨w.heap.size, 16, none⟩ = some (.string T2) := hb1.cell 16
      have g5 : wr.cell? ⟨w.heap.size, 17, none⟩ = some (.slice K2 m2 e2) := hb1.cell 17
      have HS := HS2 wr hkw
      have HB := Lib.hid hb1
      have HKW := Lib.hid hkw
      have HN0 : Hid (NP wr (w.heap.size + 1) [.int .i64 kk0, .bool bb0, .slice AA0 nn0 cc0, .int .u64 0, .string ⟨#[]⟩, .slice none 0 0] o0) := Lib.hid ⟨kk0, bb0, AA0, nn0, cc0, rfl, iw0, fz0⟩
      have HN1 : Hid (NP wr (w.heap.size + 1) [.int .i64 kk1, .bool bb1, .slice AA1 nn1 cc1, .int .u64 0, .string ⟨#[]⟩, .slice none 0 0] o1) := Lib.hid ⟨kk1, bb1, AA1, nn1, cc1, rfl, iw1, fz1⟩
      clear hb hb1 d0 d1 d2 n0 n1 n2 hkw HS0 HS1 HS2 iw0 fz0 iw1 fz1
      go_wp2_with fail
      refine HS.out.mono ?_
      rintro e w1 ⟨o2, kk2, bb2, AA2, nn2, cc2, rfl, hiw, hfz, hk1⟩
      have hb2 := HB.out.below hk1
      obtain ⟨W2, hW2⟩ : ∃ W2, W2 = w1.setCells w.heap.size 12 (#[.int .i64 kk2, .bool bb2, .slice AA2 nn2 cc2, .int .u64 0, .string ⟨#[]⟩, .slice none 0 0] : Array Value).toList := ⟨_, rfl⟩
      have hst := run_storeVar_mid (P := Tryz.prog) w1 w.heap.size 12 26 #[.int .i64 kk2, .bool bb2, .slice AA2 nn2 cc2, .int .u64 0, .string ⟨#[]⟩, .slice none 0 0] (there_of hb2 12 6 (by simp)) info_Val (by simp [Value.oneCell'])
      rw [← hW2] at hst
      have HB2 : Hid (Blk W2 w.heap.size 27 #[.int .i64 kk0, .bool bb0, .slice AA0 nn0 cc0, .int .u64 0, .string ⟨#[]⟩, .slice none 0 0, .int .i64 kk1, .bool bb1, .slice AA1 nn1 cc1, .int .u64 0, .string ⟨#[]⟩, .slice none 0 0, .int .i64 kk2, .bool bb2, .slice AA2 nn2 cc2, .int .u64 0, .string ⟨#[]⟩, .slice none 0 0]) := Lib.hid (by rw [hW2]; exact ((((((hb2.set 12 (.int .i64 kk2)).set 13 (.bool bb2)).set 14 (.slice AA2 nn2 cc2)).set 15 (.int .u64 0)).set 16 (.string ⟨#[]⟩)).set 17 (.slice none 0 0)))
      have hfar : ∀ i, i < w1.heap.size → i ≠ w.heap.size → W2.heap[i]? = w1.heap[i]? := fun i _ hi => by rw [hW2]; exact heap_setCells _ _ _ _ _ hi
      have HNn : Hid (NP W2 (w.heap.size + 1) [.int .i64 kk2, .bool bb2, .slice AA2 nn2 cc2, .int .u64 0, .string ⟨#[]⟩, .slice none 0 0] o2) := Lib.hid (NP.far ⟨kk2, bb2, AA2, nn2, cc2, rfl, hiw, hfz.mono (by omega)⟩ (by omega) hfar)
      have HM0 := Lib.hid ((HN0.out.below hk1).far (by omega) hfar)
      have HM1 := Lib.hid ((HN1.out.below hk1).far (by omega) hfar)
      have HK2 : Hid (Kept w W2) := Lib.hid (by rw [hW2]; exact kept_setCells (Nat.le_refl _) _ _ _ (Kept.trans HKW.out hk1))
      clear hW2 hfar hiw hfz hk1 hb2 HS HB HKW HN0 HN1
      simp [go_sem] at hst
      go_wp2_with fail
      exact ⟨⟨3, by go_num, by omega, [.int .i64 kk0, .bool bb0, .slice AA0 nn0 cc0, .int .u64 0, .string ⟨#[]⟩, .slice none 0 0], [.int .i64 kk1, .bool bb1, .slice AA1 nn1 cc1, .int .u64 0, .string ⟨#[]⟩, .slice none 0 0], [.int .i64 kk2, .bool bb2, .slice AA2 nn2 cc2, .int .u64 0, .string ⟨#[]⟩, .slice none 0 0], HB2.out, fun h => absurd h (by omega), fun h => absurd h (by omega), fun h => absurd h (by omega), fun _ => ⟨_, HM0.out⟩, fun _ => ⟨_, HM1.out⟩, fun _ => ⟨_, HNn.out⟩, HK2.out⟩, by simp [intOf]⟩
    · obtain ⟨o0, kk0, bb0, AA0, nn0, cc0, rfl, iw0, _⟩ := n0 (by omega)
      obtain ⟨o1, kk1, bb1, AA1, nn1, cc1, rfl, iw1, _⟩ := n1 (by omega)
      obtain ⟨o2, kk2, bb2, AA2, nn2, cc2, rfl, iw2, _⟩ := n2 (by omega)
      obtain ⟨CS9, hcs9⟩ : ∃ CS9 : Array Value, CS9 = #[.int .i64 kk0, .bool bb0, .slice AA0 nn0 cc0, .int .u64 0, .string ⟨#[]⟩, .slice none 0 0, .int .i64 kk1, .bool bb1, .slice AA1 nn1 cc1, .int .u64 0, .string ⟨#[]⟩, .slice none 0 0, .int .i64 kk2, .bool bb2, .slice AA2 nn2 cc2, .int .u64 0, .string ⟨#[]⟩, .slice none 0 0] := ⟨_, rfl⟩
      have hb9 : Blk wr w.heap.size 27 CS9 := by rw [hcs9]; exact hb
      have hz : (Tryz.prog.info? 27).map (·.size) = some CS9.size := by rw [hcs9]; kernel_rfl
      have HASK : Hid (Calls Tryz.prog 6 #[.int .i64 N, .agg CS9] wr (RetAsk N o0 o1 o2 wr)) := Lib.hid (by rw [hcs9]; exact Ask_any N hN2 kk0 kk1 kk2 bb0 bb1 bb2 AA0 AA1 AA2 nn0 nn1 nn2 cc0 cc1 cc2 o0 o1 o2 wr iw0 iw1 iw2)
      have HBAD : Hid (∀ W, Kept wr W → refused o0 o1 o2 → Calls Tryz.prog 7 #[.int .i64 N, .agg CS9] W fun e w' => e = .returned (.tuple #[.int .i64 0, .int .i64 0, .int .i64 0, .bool false, .bool true]) ∧ Kept W w') := Lib.hid (fun W k hr => by rw [hcs9]; exact sliceAsk_bad N hN2 kk0 kk1 kk2 bb0 bb1 bb2 AA0 AA1 AA2 nn0 nn1 nn2 cc0 cc1 cc2 o0 o1 o2 hr W (iw0.below k).toIV (iw1.below k).toIV (iw2.below k).toIV)
      have HGOOD : Hid (∀ W, Kept wr W → ∀ p0 p1 p2, o0 = some p0 → o1 = some p1 → o2 = some p2 → stp p2 ≠ 0 → (Rng p0 ∧ Rng p1) ∧ Calls Tryz.prog 7 #[.int .i64 N, .agg CS9] W fun e w' => e = .returned (.tuple #[.int .i64 (aI N (stp p2) p0 p1), .int .i64 (bI N (stp p2) p0 p1), .int .i64 (stp p2), .bool true, .bool true]) ∧ Kept W w') := Lib.hid (fun W k p0 p1 p2 e0 e1 e2 hr => by
        subst e0 e1 e2
        refine ⟨⟨iw0.rng, iw1.rng⟩, ?_⟩
        rw [hcs9]; exact sliceAsk_good N hN2 kk0 kk1 kk2 bb0 bb1 bb2 AA0 AA1 AA2 nn0 nn1 nn2 cc0 cc1 cc2 p0 p1 p2 hr W (iw0.below k).toIV (iw1.below k).toIV (iw2.below k).toIV)
      have HB9 := Lib.hid hb9
      have HKW := Lib.hid hkw
      clear hcs9 hb9 hb d0 d1 d2 n0 n1 n2 hkw iw0 iw1 iw2 HS0 HS1 HS2
      go_wp2_with (refine wpList_load_blk rfl 27 (.tmp 3) rfl w.heap.size rfl 27 CS9 HB9.out _ Tryz.underlying27 rfl hz ?_)
      refine HASK.out.mono ?_
      rintro e w2 ⟨⟨p0, p1, p2, h0, h1, h2, hs, s1, s2, rfl⟩ | ⟨hr, rfl⟩, hk2⟩
      · have HB2 := Lib.hid (HB9.out.below hk2)
        obtain ⟨⟨rg0, rg1⟩, hga⟩ := HGOOD.out w2 hk2 p0 p1 p2 h0 h1 h2 hs
        obtain ⟨f, t, a, b, m, ef, et, ea, eb, em1, em2, ⟨f1, f2⟩, ⟨t1, t2⟩, ⟨a1, a2⟩, ⟨b1, b2⟩, hm, hfin⟩ := ask_all N hN2 (stp p2) hs p0 p1 rg0 rg1
        rw [← ea, ← eb] at hga
        rw [← ef, ← et]
        generalize stp p2 = s at *
        have HC1 := fun W => Lib.hid (Count_any f t s f1 f2 t1 t2 s1 s2 W)
        have HC2 := fun W => Lib.hid (Count_any a b s a1 a2 b1 b2 s1 s2 W)
        rw [← em1] at HC1
        rw [← em2] at HC2
        have HGA := Lib.hid hga
        have HK2 := Lib.hid (Kept.trans HKW.out hk2)
        clear hga ef et ea eb em1 em2 h0 h1 h2 rg0 rg1 HGOOD HBAD HASK HB9 HKW hk2
        go_wp2_with (refine wpList_load_blk rfl 27 (.tmp 3) rfl w.heap.size rfl 27 CS9 HB2.out _ Tryz.underlying27 rfl hz ?_)
        refine HGA.out.mono ?_
        rintro e w3 ⟨rfl, hk3⟩
        have HK3 := Lib.hid (Kept.trans HK2.out hk3)
        clear HGA HK2 hk3 HB2
        go_wp2_with fail
        refine (HC1 _).out.mono ?_
        rintro e w4 ⟨rfl, rfl⟩
        clear HC1
        rcases hfin with ⟨z1, z2, z3, z4⟩ | ⟨z1, z2, z3, z4⟩ | ⟨z1, z2, z3, z4, z5⟩
        all_goals
          rcases hm with ⟨hm, rfl⟩ | hm
        all_goals
          go_wp2_with fail
          refine (HC2 _).out.mono ?_
          rintro e w5 ⟨rfl, rfl⟩
          clear HC2
          go_wp2_with fail
        all_goals
          first
            | (go_ret; exact ⟨rfl, HK3.out⟩)
            | trace_state
      · have HB2 := Lib.hid (HB9.out.below hk2)
        have HGA := Lib.hid (HBAD.out w2 hk2 hr)
        have HK2 := Lib.hid (Kept.trans HKW.out hk2)
        clear HGOOD HBAD HASK HB9 HKW hk2 hr
        go_wp2_with (refine wpList_load_blk rfl 27 (.tmp 3) rfl w.heap.size rfl 27 CS9 HB2.out _ Tryz.underlying27 rfl hz ?_)
        refine HGA.out.mono ?_
        rintro e w3 ⟨rfl, hk3⟩
        have HK3 := Lib.hid (Kept.trans HK2.out hk3)
        clear HGA HK2 hk3 HB2
        go_wp2_with fail
        refine (sliceAsk_good 3 (by omega) 0 0 0 false false false none none none 0 0 0 0 0 0 none none none (by decide) w3 (IW_nil _) (IW_nil _) (IW_nil _)).mono ?_
        rintro e w4 ⟨rfl, hk4⟩
        have HK4 := Lib.hid (Kept.trans HK3.out hk4)
        clear hk4
        go_wp2_with fail
        go_ret
        exact ⟨rfl, HK4.out⟩
end Go.Proofs.YtdbdpllafknlcaaGreat
