/- The reference's small integers. -/
import Derived.Test.YtnheiigdgklbcaaSb
import Derived.Deep.RegionHeld3
namespace Go.Proofs.Ytnheiigdgklbcaa
open Go.ChangeShapes Go.WideShapes Go.ChangeAt Go.RowKit
set_option linter.unusedVariables false
set_option maxRecDepth 100000 in
theorem sZer_any (b : Bool) (A : Option Addr) (n c : Nat) (w : World) :
    Calls Try.prog 40 #[.agg #[.bool b, .slice A n c]] w fun e w' => e = .returned (.bool ((n : Int) == 0)) ∧ Kept w w' := by
  go_enter Try.func40, Try.ntmps40
  go_wp2_with fail
  go_ret
  exact ⟨rfl, (Below.refl _ _).alloc (Nat.le_refl _) _⟩
set_option maxRecDepth 100000 in
theorem sSign_any (b : Bool) (A : Option Addr) (n c : Nat) (z : Int) (w : World) (hv : SI w (.agg #[.bool b, .slice A n c]) z) :
    Calls Try.prog 42 #[.agg #[.bool b, .slice A n c]] w fun e w' => e = .returned (.int .i64 z.sign) ∧ Kept w w' := by
  have hcase : (((n : Int) == 0) = true ∧ z.sign = 0) ∨ (((n : Int) == 0) = false ∧ b = true ∧ z.sign = -1) ∨ (((n : Int) == 0) = false ∧ b = false ∧ z.sign = 1) := by
    obtain ⟨A', c', l, e, hs, hl⟩ := hv
    injection e with e; injection e with e; injection e with e1 e2; injection e2 with e2 _; injection e1 with e1; injection e2 with _ e2 _
    subst e1 e2
    have hni := hl.nil_iff
    rcases Int.lt_trichotomy z 0 with h | h | h
    · have : l ≠ [] := fun e => by have := hni.1 e; omega
      exact .inr (.inl ⟨by simp [this], decide_eq_true h, Int.sign_eq_neg_one_of_neg h⟩)
    · have : l = [] := hni.2 (by omega)
      exact .inl ⟨by simp [this], by rw [h]; rfl⟩
    · have : l ≠ [] := fun e => by have := hni.1 e; omega
      exact .inr (.inr ⟨by simp [this], decide_eq_false (by omega), Int.sign_eq_one_of_pos h⟩)
  have hb : ∀ w2 : World, Kept (w.alloc (.cells #[.bool b, .slice A n c] 24)) w2 → w2.cell? ⟨w.heap.size, 0, none⟩ = some (.bool b) ∧ Kept w w2 := fun w2 h => ⟨((Blk.new w 24 #[.bool b, .slice A n c]).below h).cell 0, (alloc_kept h).1⟩
  have HB := Lib.hid hb
  clear hb hv
  have HZ := fun W => Lib.hid (sZer_any b A n c W)
  rcases hcase with ⟨h1, h3⟩ | ⟨h1, rfl, h3⟩ | ⟨h1, rfl, h3⟩
  all_goals
    rw [h1] at HZ
    rw [h3]
    clear h1 h3
    go_enter Try.func42, Try.ntmps42
    go_wp2_with fail
    refine (HZ _).out.mono ?_
    rintro e w1 ⟨rfl, hk1⟩
    obtain ⟨c0, hk⟩ := HB.out w1 hk1
    clear hk1 HZ HB
    go_wp2_with fail
    go_ret
    exact ⟨rfl, hk⟩
theorem be8 (N : Nat) (hN : N < 18446744073709551616) : by8 (Num.be N 8) = [Value.int .u8 ((N : Int) / 256 / 256 / 256 / 256 / 256 / 256 / 256), Value.int .u8 ((N : Int) / 256 / 256 / 256 / 256 / 256 / 256 % 256), Value.int .u8 ((N : Int) / 256 / 256 / 256 / 256 / 256 % 256), Value.int .u8 ((N : Int) / 256 / 256 / 256 / 256 % 256), Value.int .u8 ((N : Int) / 256 / 256 / 256 % 256), Value.int .u8 ((N : Int) / 256 / 256 % 256), Value.int .u8 ((N : Int) / 256 % 256), Value.int .u8 ((N : Int) % 256)] := by
  have e : by8 (Num.be N 8) = [Value.int .u8 ((Num.dg 256 N 7 : Nat) : Int), Value.int .u8 ((Num.dg 256 N 6 : Nat) : Int), Value.int .u8 ((Num.dg 256 N 5 : Nat) : Int), Value.int .u8 ((Num.dg 256 N 4 : Nat) : Int), Value.int .u8 ((Num.dg 256 N 3 : Nat) : Int), Value.int .u8 ((Num.dg 256 N 2 : Nat) : Int), Value.int .u8 ((Num.dg 256 N 1 : Nat) : Int), Value.int .u8 ((Num.dg 256 N 0 : Nat) : Int)] := rfl
  rw [e]
  have d7 : ((Num.dg 256 N 7 : Nat) : Int) = (N : Int) / 256 / 256 / 256 / 256 / 256 / 256 / 256 := by simp only [Num.dg, Nat.reducePow]; omega
  have d6 : ((Num.dg 256 N 6 : Nat) : Int) = (N : Int) / 256 / 256 / 256 / 256 / 256 / 256 % 256 := by simp only [Num.dg, Nat.reducePow]; omega
  have d5 : ((Num.dg 256 N 5 : Nat) : Int) = (N : Int) / 256 / 256 / 256 / 256 / 256 % 256 := by simp only [Num.dg, Nat.reducePow]; omega
  have d4 : ((Num.dg 256 N 4 : Nat) : Int) = (N : Int) / 256 / 256 / 256 / 256 % 256 := by simp only [Num.dg, Nat.reducePow]; omega
  have d3 : ((Num.dg 256 N 3 : Nat) : Int) = (N : Int) / 256 / 256 / 256 % 256 := by simp only [Num.dg, Nat.reducePow]; omega
  have d2 : ((Num.dg 256 N 2 : Nat) : Int) = (N : Int) / 256 / 256 % 256 := by simp only [Num.dg, Nat.reducePow]; omega
  have d1 : ((Num.dg 256 N 1 : Nat) : Int) = (N : Int) / 256 % 256 := by simp only [Num.dg, Nat.reducePow]; omega
  have d0 : ((Num.dg 256 N 0 : Nat) : Int) = (N : Int) % 256 := by simp only [Num.dg, Nat.reducePow]; omega
  rw [d7, d6, d5, d4, d3, d2, d1, d0]
set_option maxRecDepth 100000 in
theorem bytesOf_any (N : Nat) (hN : N < 18446744073709551616) (w : World) :
    Calls Try.prog 47 #[.int .u64 N] w fun e w' => e = .returned (.slice (some ⟨w.heap.size, 0, none⟩) 8 8) ∧ Sl w' (some ⟨w.heap.size, 0, none⟩) 8 (by8 (Num.be N 8)) ∧ Kept w w' := by
  have hmk : ∀ W : World, (Instr.makeSlice 22 (.int .i64 8) (.int .i64 8)).run Try.prog W = .ok (.slice (some ⟨W.heap.size, 0, none⟩) 8 8) (W.alloc (.cells #[.int .u8 0, .int .u8 0, .int .u8 0, .int .u8 0, .int .u8 0, .int .u8 0, .int .u8 0, .int .u8 0] 5)) := fun _ => by kernel_rfl
  have hNI : (N : Int) < 18446744073709551616 := by omega
  go_enter Try.func47, Try.ntmps47
  go_wp2_with fail
  go_rounds 9
  go_ret
  rw [be8 N hN]
  refine ⟨rfl, ⟨Nat.le_refl _, by unfold maxLen; omega, fun _ => ⟨_, _, rfl, fun j u hu => ?_⟩⟩, (Below.refl _ _).alloc (Nat.le_refl _) _⟩
  rw [Nat.zero_add, cell_of_row _ _ j _ _ _ (heap_alloc_new w _)]
  rw [← hu]
  exact (List.getElem?_toArray ..)

set_option maxRecDepth 100000 in
theorem Small_any (z : Int) (h1 : -9223372036854775808 ≤ z) (h2 : z ≤ 9223372036854775807) (w : World) :
    Calls Try.prog 21 #[.int .i64 z] w (RetSI w z) := by
  have fin : ∀ (W w2 w3 : World) (b : Bool) (v : Value), w.heap.size < W.heap.size → Kept w W → Blk W w.heap.size 24 #[.bool false, .slice none 0 0] → Kept W w2 → RetSI w2 (sgn b z.natAbs) (.returned v) w3 → sgn b z.natAbs = z →
      ∃ b' A n c, v = .agg #[.bool b', .slice A n c] ∧ Hid (w3.heap[w.heap.size]? = some (.cells #[.bool false, .slice none 0 0] 24 (0, 0))) ∧ RetSI w z (.returned v) (w3.setRow w.heap.size #[.bool b', .slice A n c]) := by
    rintro W w2 w3 b v hlt hk hb hk2 ⟨v', e, hv, hk3⟩ hz
    injection e with e
    subst e
    rw [hz] at hv
    obtain ⟨b', A, n, c, rfl⟩ := hv.two
    have hs2 := hk2.size
    have hks := hk.size
    refine ⟨b', A, n, c, rfl, ((hb.below hk2).below hk3), _, rfl, (hv.setRow (by omega) _).mono (by omega), below_setRow ((Below.trans hk (hk2.mono hks)).trans (hk3.mono (by omega))) (Nat.le_refl _) _⟩
  have FIN := Lib.hid fin
  clear fin
  have hbn : ∀ N, N < 18446744073709551616 → Num.le 256 (Num.be N 8).reverse = N := fun N h => Num.be_le N 8 h
  have HBN := Lib.hid hbn
  clear hbn
  have hb0 := Blk.new w 24 #[.bool false, .slice none 0 0]
  have hk0 : Kept w (w.alloc (.cells #[.bool false, .slice none 0 0] 24)) := by go_grown
  have hs0 : w.heap.size < (w.alloc (.cells #[.bool false, .slice none 0 0] 24)).heap.size := by simp
  by_cases hn : z < 0
  · obtain ⟨N, hz⟩ : ∃ N : Nat, z = -(N : Int) := ⟨z.natAbs, by omega⟩
    subst hz
    have e1 : IntKind.u64.wrap (-(N : Int)) = 18446744073709551616 - (N : Int) := by rw [IntKind.wrap_u64]; omega
    have e2 : IntKind.u64.wrap (-(18446744073709551616 - (N : Int))) = (N : Int) := by rw [IntKind.wrap_u64]; omega
    have hab : (-(N : Int)).natAbs = N := by omega
    have hsg : sgn true N = -(N : Int) := rfl
    rw [hab] at FIN
    have hbo := fun W => Lib.hid (bytesOf_any N (by omega) W)
    have HSG := Lib.hid hsg
    have hN2 : N < 18446744073709551616 := by omega
    clear hab hsg h2
    go_enter Try.func21, Try.ntmps21
    go_wp2_with fail
    refine (hbo _).out.mono ?_
    rintro e w2 ⟨rfl, hs2, hk2⟩
    rw [World.size_alloc] at hs2
    have hof := Of_any true _ _ (Num.be N 8) (by rw [Num.be_len]; omega) (Num.be_lt N 8) w2 hs2
    rw [Num.be_len, HBN.out N hN2] at hof
    have HOF := Lib.hid hof
    have HK2 := Lib.hid hk2
    clear hof hs2 hk2
    go_wp2_with fail
    refine (HOF.out).mono ?_
    rintro e w3 ⟨v, rfl, q⟩
    obtain ⟨b', A, n, c, rfl, H, hfin⟩ := FIN.out _ w2 w3 true v hs0 hk0 hb0 HK2.out ⟨v, rfl, q⟩ HSG.out
    clear q
    go_wp2_with (refine wpList_store_row rfl 24 (.tmp 2) (.tmp 14) rfl w.heap.size _ rfl rfl 24 _ H.out info_SI rfl (by simp [Value.oneCell']) ?_)
    refine bodyPost_blk (cs := #[.bool b', .slice A n c]) rfl rfl (setRow_heap _ _ _ _ _ _ H.out) Try.underlying24 rfl (by exact info_SI) rfl ?_
    exact hfin
  · obtain ⟨N, hz⟩ : ∃ N : Nat, z = (N : Int) := ⟨z.natAbs, by omega⟩
    subst hz
    have e1 : IntKind.u64.wrap (N : Int) = (N : Int) := by rw [IntKind.wrap_u64]; omega
    have hab : ((N : Int)).natAbs = N := by omega
    have hsg : sgn false N = (N : Int) := rfl
    have e3 : ¬ ((N : Int) < 0) := by omega
    rw [hab] at FIN
    have hbo := fun W => Lib.hid (bytesOf_any N (by omega) W)
    have HSG := Lib.hid hsg
    have hN2 : N < 18446744073709551616 := by omega
    clear hab hsg h1 hn
    go_enter Try.func21, Try.ntmps21
    go_wp2_with fail
    refine (hbo _).out.mono ?_
    rintro e w2 ⟨rfl, hs2, hk2⟩
    rw [World.size_alloc] at hs2
    have hof := Of_any false _ _ (Num.be N 8) (by rw [Num.be_len]; omega) (Num.be_lt N 8) w2 hs2
    rw [Num.be_len, HBN.out N hN2] at hof
    have HOF := Lib.hid hof
    have HK2 := Lib.hid hk2
    clear hof hs2 hk2
    go_wp2_with fail
    refine (HOF.out).mono ?_
    rintro e w3 ⟨v, rfl, q⟩
    obtain ⟨b', A, n, c, rfl, H, hfin⟩ := FIN.out _ w2 w3 false v hs0 hk0 hb0 HK2.out ⟨v, rfl, q⟩ HSG.out
    clear q
    go_wp2_with (refine wpList_store_row rfl 24 (.tmp 2) (.tmp 14) rfl w.heap.size _ rfl rfl 24 _ H.out info_SI rfl (by simp [Value.oneCell']) ?_)
    refine bodyPost_blk (cs := #[.bool b', .slice A n c]) rfl rfl (setRow_heap _ _ _ _ _ _ H.out) Try.underlying24 rfl (by exact info_SI) rfl ?_
    exact hfin
end Go.Proofs.Ytnheiigdgklbcaa
