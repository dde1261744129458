/- The reference's powers of two. -/
import Derived.Test.YtoociokhldakbaaGreatO2
import Derived.Deep.RegionHeld3
namespace Go.Proofs.YtoociokhldakbaaGreat
open Go.ChangeShapes Go.WideShapes Go.ChangeAt Go.RowKit
set_option linter.unusedVariables false
theorem pow8 (q : Nat) : 256 ^ q = 2 ^ (8 * q) := by
  rw [Nat.pow_mul]
theorem ofInt_i64 (a : Nat) (ha : a < 9223372036854775808) : (BitVec.ofInt 64 (a : Int)).toNat = a := by
  rw [BitVec.ofInt_natCast, BitVec.toNat_ofNat]; exact Nat.mod_eq_of_lt (by omega)
theorem i64_and_nat (a b : Nat) (ha : a < 9223372036854775808) (hb : b < 9223372036854775808) : bits .and .i64 (a : Int) (b : Int) = ((a &&& b : Nat) : Int) := by
  have hx : a &&& b < 2 ^ 63 := Nat.and_lt_two_pow _ (by omega)
  show IntKind.i64.wrap ((BitVec.ofInt 64 (a : Int) &&& BitVec.ofInt 64 (b : Int)).toNat : Int) = _
  rw [BitVec.toNat_and, ofInt_i64 a ha, ofInt_i64 b hb, IntKind.wrap_i64]
  omega
/-- the quotient's bits from place k on -/
def qF (X Y k : Nat) : Nat := X / 2 ^ k / Y * 2 ^ k
theorem half_step (X i : Nat) : X / 2 ^ i = 2 * (X / 2 ^ (i + 1)) + X / 2 ^ i % 2 := by
  rw [Nat.pow_succ, ← Nat.div_div_eq_div_mul]
  omega
theorem div_uniq (a y q r : Nat) (h : a = y * q + r) (hr : r < y) : a / y = q ∧ a % y = r := by
  subst h
  rw [Nat.mul_add_div (by omega), Nat.mul_add_mod, Nat.div_eq_of_lt hr, Nat.mod_eq_of_lt hr]
  exact ⟨rfl, rfl⟩
/-- one round of the division bit by bit -/
theorem split_step (X Y i : Nat) (hY : 0 < Y) :
    (2 * (X / 2 ^ (i + 1) % Y) + X / 2 ^ i % 2 < Y → X / 2 ^ i % Y = 2 * (X / 2 ^ (i + 1) % Y) + X / 2 ^ i % 2 ∧ qF X Y i = qF X Y (i + 1)) ∧
    (Y ≤ 2 * (X / 2 ^ (i + 1) % Y) + X / 2 ^ i % 2 → X / 2 ^ i % Y = 2 * (X / 2 ^ (i + 1) % Y) + X / 2 ^ i % 2 - Y ∧ qF X Y i = qF X Y (i + 1) + 2 ^ i) := by
  have h1 := half_step X i
  have h2 := Nat.div_add_mod (X / 2 ^ (i + 1)) Y
  have h3 := Nat.mod_lt (X / 2 ^ (i + 1)) hY
  have h4 := Nat.mod_lt (X / 2 ^ i) (show 0 < 2 by omega)
  unfold qF
  rw [Nat.pow_succ] at *
  generalize X / 2 ^ i = P at *
  generalize X / (2 ^ i * 2) = Q at *
  generalize Q / Y = m at *
  generalize Q % Y = L at *
  generalize P % 2 = b at *
  constructor
  · intro h
    obtain ⟨d1, d2⟩ := div_uniq P Y (2 * m) (2 * L + b) (by rw [Nat.mul_left_comm]; omega) h
    refine ⟨d2, ?_⟩
    rw [d1, Nat.mul_comm (2 ^ i) 2, ← Nat.mul_assoc, Nat.mul_comm m 2]
  · intro h
    obtain ⟨d1, d2⟩ := div_uniq P Y (2 * m + 1) (2 * L + b - Y) (by rw [Nat.mul_add, Nat.mul_one, Nat.mul_left_comm]; omega) (by omega)
    refine ⟨d2, ?_⟩
    rw [d1, Nat.add_mul, Nat.one_mul, Nat.mul_comm (2 ^ i) 2, ← Nat.mul_assoc, Nat.mul_comm m 2]
theorem dg_below (t q r j : Nat) (hj : j < q) : Num.dg 256 (t * 2 ^ (8 * q + r)) j = 0 := by
  obtain ⟨u, rfl⟩ : ∃ u, q = j + 1 + u := ⟨q - j - 1, by omega⟩
  have e : t * 2 ^ (8 * (j + 1 + u) + r) = (t * 2 ^ (8 * u + r) * 256) * 256 ^ j := by
    rw [pow8, Nat.mul_assoc, Nat.mul_assoc, show 256 = 2 ^ 8 from rfl, ← Nat.pow_add, ← Nat.pow_add]
    congr 2
    omega
  unfold Num.dg
  rw [e, Nat.mul_div_cancel _ (Nat.pow_pos (by omega)), Nat.mul_mod_left]
theorem dg_above (m i j : Nat) (hj : i < 8 * j) : Num.dg 256 (m * 2 ^ (i + 1) + 2 ^ i) j = Num.dg 256 (m * 2 ^ (i + 1)) j := by
  obtain ⟨u, hu⟩ : ∃ u, 8 * j = i + 1 + u := ⟨8 * j - i - 1, by omega⟩
  unfold Num.dg
  have hp : 2 ^ (i + 1 + u) = 2 ^ (i + 1) * 2 ^ u := Nat.pow_add ..
  rw [pow8, hu, hp, ← Nat.div_div_eq_div_mul, ← Nat.div_div_eq_div_mul, Nat.mul_div_cancel _ (Nat.two_pow_pos _)]
  have e : (m * 2 ^ (i + 1) + 2 ^ i) / 2 ^ (i + 1) = m := by
    rw [Nat.mul_comm, Nat.mul_add_div (Nat.two_pow_pos _), Nat.div_eq_of_lt (by rw [Nat.pow_succ]; have := Nat.two_pow_pos i; omega), Nat.add_zero]
  rw [e]
theorem dg_at (m q r : Nat) (hr : r < 8) : ∃ t, Num.dg 256 (m * 2 ^ (8 * q + r + 1)) q = t * 2 ^ (r + 1) ∧ Num.dg 256 (m * 2 ^ (8 * q + r + 1) + 2 ^ (8 * q + r)) q = t * 2 ^ (r + 1) + 2 ^ r := by
  have e1 : m * 2 ^ (8 * q + r + 1) = (m * 2 ^ (r + 1)) * 256 ^ q := by
    rw [pow8, Nat.mul_assoc, ← Nat.pow_add]; congr 2; omega
  have e2 : 2 ^ (8 * q + r) = 2 ^ r * 256 ^ q := by rw [pow8, ← Nat.pow_add]; congr 1; omega
  unfold Num.dg
  rw [e1, e2, ← Nat.add_mul, Nat.mul_div_cancel _ (Nat.pow_pos (by omega)), Nat.mul_div_cancel _ (Nat.pow_pos (by omega))]
  refine ⟨m % 2 ^ (7 - r), ?_⟩
  have h : r = 0 ∨ r = 1 ∨ r = 2 ∨ r = 3 ∨ r = 4 ∨ r = 5 ∨ r = 6 ∨ r = 7 := by omega
  rcases h with rfl | rfl | rfl | rfl | rfl | rfl | rfl | rfl <;> (simp only [Nat.reducePow, Nat.reduceAdd, Nat.reduceSub]; omega)
/-- the row of the quotient's digits -/
def qd (Q n j : Nat) : Value := .int .u8 ((Num.dg 256 Q (n - 1 - j) : Nat) : Int)
theorem qd_set (m n q r : Nat) (hr : r < 8) (hq : q < n) : ∀ j, j < n → (if j = n - 1 - q then Value.int .u8 ((Num.dg 256 (m * 2 ^ (8 * q + r + 1) + 2 ^ (8 * q + r)) q : Nat) : Int) else qd (m * 2 ^ (8 * q + r + 1)) n j) = qd (m * 2 ^ (8 * q + r + 1) + 2 ^ (8 * q + r)) n j := by
  intro j hj
  by_cases h : j = n - 1 - q
  · rw [if_pos h]
    unfold qd
    congr 3
    omega
  · rw [if_neg h]
    unfold qd
    congr 2
    rcases Nat.lt_or_ge (n - 1 - j) q with h1 | h1
    · have e : m * 2 ^ (8 * q + r + 1) = (2 * m) * 2 ^ (8 * q + r) := by rw [Nat.pow_succ]; generalize 2 ^ (8 * q + r) = p; rw [← Nat.mul_assoc, Nat.mul_comm (m * p), ← Nat.mul_assoc]
      rw [e]
      have e2 : (2 * m) * 2 ^ (8 * q + r) + 2 ^ (8 * q + r) = (2 * m + 1) * 2 ^ (8 * q + r) := by rw [Nat.add_mul, Nat.one_mul]
      rw [e2, dg_below _ q r _ h1, dg_below _ q r _ h1]
    · rw [dg_above m (8 * q + r) (n - 1 - j) (by omega)]
theorem rowIs_kept {w w' : World} {b : Nat} {t : TypeId} {n : Nat} {f : Nat → Value} (h : w.rowIs b t n f) (hb : Kept w w') : w'.rowIs b t n f := by
  obtain ⟨cur, h1, h2⟩ := h
  exact ⟨cur, (hb.block b (block_lt h1)).trans h1, h2⟩
theorem or_bit (d t r : Nat) (hr : r < 8) (hd : d = t * 2 ^ (r + 1)) (h : d + 2 ^ r < 256) : bits .or .u8 (d : Int) ((2 ^ r : Nat) : Int) = ((d + 2 ^ r : Nat) : Int) := by
  have hp := Nat.two_pow_pos r
  rw [u8_or_nat d (2 ^ r) (by omega) (by omega), hd, Nat.or_comm, or_shl (2 ^ r) t (r + 1) (by rw [Nat.pow_succ]; have := Nat.two_pow_pos r; omega), Nat.add_comm]
theorem bit_val (A i : Nat) : Num.dg 256 A (i / 8) / 2 ^ (i % 8) % 2 = A / 2 ^ i % 2 := by
  have e : A / 2 ^ i = A / 256 ^ (i / 8) / 2 ^ (i % 8) := by
    rw [pow8, Nat.div_div_eq_div_mul, ← Nat.pow_add]
    congr 2
    omega
  rw [e]
  unfold Num.dg
  generalize A / 256 ^ (i / 8) = M
  have h : i % 8 = 0 ∨ i % 8 = 1 ∨ i % 8 = 2 ∨ i % 8 = 3 ∨ i % 8 = 4 ∨ i % 8 = 5 ∨ i % 8 = 6 ∨ i % 8 = 7 := by omega
  rcases h with h | h | h | h | h | h | h | h <;> (rw [h]; simp only [Nat.reducePow]; omega)
theorem cast8 (q r : Nat) (hr : r < 8) : ((8 * q + r : Nat) : Int) = 8 * (q : Int) + (r : Int) ∧ (8 * (q : Int) + (r : Int)) / 8 = (q : Int) ∧ (8 * (q : Int) + (r : Int)) % 8 = (r : Int) := by omega
theorem pow_u8 (r : Nat) (hr : r < 8) : (2 : Int) ^ r % 256 = ((2 ^ r : Nat) : Int) := by
  have h : r = 0 ∨ r = 1 ∨ r = 2 ∨ r = 3 ∨ r = 4 ∨ r = 5 ∨ r = 6 ∨ r = 7 := by omega
  rcases h with rfl | rfl | rfl | rfl | rfl | rfl | rfl | rfl <;> rfl
theorem qd_row {w : World} {g n Q : Nat} {t : TypeId} (hr : w.rowIs g t n (qd Q n)) (hn : n ≤ maxLen) : Sl w (some ⟨g, 0, none⟩) n (by8 (Num.be Q n)) := by
  refine Sl_of_row hr (fun j u hu => ?_) (by rw [by8_len, Num.be_len]; exact Nat.le_refl _) hn
  have hj : j < n := by
    have := (List.getElem?_eq_some_iff.1 hu).1
    rwa [by8_len, Num.be_len] at this
  have e := Num.be_get Q n j hj
  simp only [by8, List.getElem?_map, e, Option.map_some] at hu
  injection hu with hu
theorem Blk.far2 {w : World} {g : Nat} {t : TypeId} {cs : Array Value} (h : Blk w g t cs) {k i : Nat} (hk : g ≠ k) (u : Value) : Blk (w.setCell ⟨k, i, none⟩ u) g t cs := Blk.far h hk u
theorem beN_zeros (q : Nat) : beN (List.replicate q 0) = 0 := by
  unfold beN
  rw [List.reverse_replicate, Num.le_replicate]
theorem pow2_split (q r : Nat) : 256 ^ q * 2 ^ r = 2 ^ (8 * q + r) := by rw [pow8, ← Nat.pow_add]
set_option maxRecDepth 100000 in
set_option maxHeartbeats 1000000 in
theorem Power_any (q r : Nat) (hq : q ≤ 10000) (hr : r < 8) (w : World) :
    Calls Tryz.prog 77 #[.int .i64 (8 * (q : Int) + (r : Int))] w (RetSI w ((2 ^ (8 * q + r) : Nat) : Int)) := by
  have hmk := fun W => run_make_row' (P := Tryz.prog) 29 5 (.int .u8 0) 1 Tryz.underlying29 info8 rfl .i64 .i64 (q + 1) (by omega) (by omega) W
  have eN : ((q + 1 : Nat) : Int) = (q : Int) + 1 := by omega
  simp only [eN] at hmk
  have hd8 : (8 * (q : Int) + (r : Int)) / 8 = (q : Int) := (cast8 q r hr).2.1
  have hm8 : (8 * (q : Int) + (r : Int)) % 8 = (r : Int) := (cast8 q r hr).2.2
  have hrI : (r : Int) < 8 := by omega
  have hwr : IntKind.u64.wrap (r : Int) = (r : Int) := by rw [IntKind.wrap_u64]; omega
  have hpu := pow_u8 r hr
  have hnn : (0 : Int) ≤ 8 * (q : Int) + (r : Int) := by omega
  have hk0 : Kept w ((w.alloc (.cells #[.bool false, .slice none 0 0] 65)).alloc (.cells (madeCells #[Value.int .u8 0] (q + 1)) 5)) := by go_grown
  have b1 : Blk ((w.alloc (.cells #[.bool false, .slice none 0 0] 65)).alloc (.cells (madeCells #[Value.int .u8 0] (q + 1)) 5)) w.heap.size 65 #[.bool false, .slice none 0 0] := (Blk.new w _ _).below ((Below.refl _ _).alloc (Nat.le_refl _) _)
  have hr0 : ((w.alloc (.cells #[.bool false, .slice none 0 0] 65)).alloc (.cells (madeCells #[Value.int .u8 0] (q + 1)) 5)).rowIs (w.heap.size + 1) 5 (q + 1) (fun _ => .int .u8 0) := by
    have := World.rowIs_made (w.alloc (.cells #[.bool false, .slice none 0 0] 65)) (.int .u8 0) (q + 1) 5
    rwa [World.size_alloc] at this
  have h2r : 2 ^ r < 256 := by have := Nat.pow_le_pow_right (show 0 < 2 by omega) (show r ≤ 7 by omega); omega
  have hcl := hr0.cell (i := 0) (by omega)
  have hfr := hr0.frozen 0
  have hset := hr0.set 0 (.int .u8 ((2 ^ r : Nat) : Int))
  have hSl : Sl (((w.alloc (.cells #[.bool false, .slice none 0 0] 65)).alloc (.cells (madeCells #[Value.int .u8 0] (q + 1)) 5)).setCell ⟨w.heap.size + 1, 0, none⟩ (.int .u8 ((2 ^ r : Nat) : Int))) (some ⟨w.heap.size + 1, 0, none⟩) (q + 1) (by8 (2 ^ r :: List.replicate q 0)) := by
    refine Sl_of_row hset (fun j u hu => ?_) (by rw [by8_len]; simp) (by unfold maxLen; omega)
    cases j with
    | zero => simp [by8] at hu; rw [if_pos rfl, ← hu]; simp
    | succ j =>
      rw [if_neg (by omega)]
      simp only [by8, List.map_cons, List.getElem?_cons_succ, List.map_replicate, List.getElem?_replicate] at hu
      split at hu
      · injection hu
      · cases hu
  have hval : Num.le 256 (2 ^ r :: List.replicate q 0).reverse = 2 ^ (8 * q + r) := by
    have h1 := beN_cons (2 ^ r) (List.replicate q 0)
    rw [beN_zeros, Nat.zero_add, List.length_replicate, pow2_split] at h1
    exact h1
  have hof := Of_any false (some ⟨w.heap.size + 1, 0, none⟩) (q + 1) (2 ^ r :: List.replicate q 0) (by simp; omega) (fun d hd => by
    rcases List.mem_cons.1 hd with rfl | hd
    · exact h2r
    · have := List.eq_of_mem_replicate hd; omega) _ hSl
  rw [hval] at hof
  have hlen : (2 ^ r :: List.replicate q 0).length = q + 1 := by simp
  rw [hlen] at hof
  have hsg : sgn false (2 ^ (8 * q + r)) = ((2 ^ (8 * q + r) : Nat) : Int) := rfl
  rw [hsg] at hof
  have hb2 : Blk (((w.alloc (.cells #[.bool false, .slice none 0 0] 65)).alloc (.cells (madeCells #[Value.int .u8 0] (q + 1)) 5)).setCell ⟨w.heap.size + 1, 0, none⟩ (.int .u8 ((2 ^ r : Nat) : Int))) w.heap.size 65 #[.bool false, .slice none 0 0] := Blk.far b1 (by omega) _
  have hk2 : Kept w (((w.alloc (.cells #[.bool false, .slice none 0 0] 65)).alloc (.cells (madeCells #[Value.int .u8 0] (q + 1)) 5)).setCell ⟨w.heap.size + 1, 0, none⟩ (.int .u8 ((2 ^ r : Nat) : Int))) := hk0.setCell (by show w.heap.size ≤ w.heap.size + 1; omega) _
  have hsc : ((w.alloc (.cells #[.bool false, .slice none 0 0] 65)).alloc (.cells (madeCells #[Value.int .u8 0] (q + 1)) 5)).setCell ⟨w.heap.size + 1, 0, none⟩ (.int .u8 ((2 ^ r : Nat) : Int)) = (w.alloc (.cells #[.bool false, .slice none 0 0] 65)).alloc (.cells ((madeCells #[Value.int .u8 0] (q + 1)).setIfInBounds 0 (.int .u8 ((2 ^ r : Nat) : Int))) 5) :=
    World.setCell_alloc_at _ _ _ _ _ (by rw [World.size_alloc])
  rw [hsc] at hof hb2 hk2
  have HOF := Lib.hid hof
  have HB2 := Lib.hid hb2
  have HK2 := Lib.hid hk2
  have HRr : Hid (((2 ^ (8 * q + r) : Nat) : Int) = ((2 ^ (8 * q + r) : Nat) : Int)) := Lib.hid rfl
  clear eN hr0 hset hSl hval hof hlen hsg hb2 hk2 hk0 b1 hr hsc
  generalize hP : ((2 ^ (8 * q + r) : Nat) : Int) = P at *
  generalize hp : 2 ^ r = pp at *
  go_enter Tryz.func77, Tryz.ntmps77
  go_wp2_with fail
  generalize ((w.alloc (.cells #[.bool false, .slice none 0 0] 65)).alloc (.cells ((madeCells #[Value.int .u8 0] (q + 1)).setIfInBounds 0 (.int .u8 (pp : Int))) 5)) = W at *
  have hsW := HK2.out.size
  have hlW := HB2.out.lt
  refine (HOF.out).mono ?_
  rintro e w3 ⟨v3, rfl, hv3, hk3⟩
  have H := Lib.hid (HB2.out.below hk3)
  have HV3 := Lib.hid hv3
  obtain ⟨b3, A3, n3, c3, rfl⟩ := hv3.two
  have HK3 : Hid (Kept w w3) := Lib.hid (HK2.out.trans hk3)
  clear hv3 hk3
  go_wp2_with (refine wpList_store_row rfl 65 (.tmp 2) (.tmp 15) rfl w.heap.size _ rfl rfl 65 _ H.out info_SI rfl (by simp [Value.oneCell']) ?_)
  refine bodyPost_blk (cs := #[.bool b3, .slice A3 n3 c3]) rfl rfl (setRow_heap _ _ _ _ _ _ H.out) Tryz.underlying65 rfl (by exact info_SI) rfl ?_
  exact ⟨_, rfl, (HV3.out.setRow (by omega) _).mono (by omega), below_setRow HK3.out (Nat.le_refl _) _⟩

end Go.Proofs.YtoociokhldakbaaGreat
