/- An integer made of any value's fields. -/
import Derived.Test.YtoociokhldakbaaGreatN4
import Derived.Test.YtoociokhldakbaaGreatIc
namespace Go.Proofs.YtoociokhldakbaaGreat
open Go.ChangeShapes Go.WideShapes Go.ChangeAt Go.RowKit
set_option linter.unusedVariables false
set_option maxRecDepth 100000 in
set_option maxHeartbeats 1000000 in
theorem wholeG_any (k : Int) (neg : Bool) (A : Option Addr) (c : Nat) (l : List Nat) (bits : Int) (t : ByteArray) (K : Option Addr) (kn kc : Nat) (hlen : l.length ≤ 4095) (hd : ∀ d ∈ l, d < 256) (w : World) (hs : Sl w A c (by8 l)) :
    Calls Tryz.prog 26 #[.agg #[.int .i64 k, .bool neg, .slice A l.length c, .int .u64 bits, .string t, .slice K kn kc]] w (RetStI w (sgn neg (Num.le 256 l.reverse))) := by
  obtain ⟨N, hN⟩ : ∃ N, N = Num.le 256 l.reverse := ⟨_, rfl⟩
  have hcap : N < Num.Cap := by
    have h1 := Num.le_lt 256 (by omega) l.reverse (fun d h => hd d (List.mem_reverse.1 h))
    rw [← hN, List.length_reverse] at h1
    have h2 : 256 ^ l.length ≤ Num.Cap := Nat.pow_le_pow_right (by omega) (by show l.length ≤ 4096; omega)
    exact Nat.lt_of_lt_of_le h1 h2
  rw [← hN]
  obtain ⟨z, hze⟩ : ∃ z, z = sgn neg N := ⟨_, rfl⟩
  have hz : z.natAbs < Num.Cap := by rw [hze]; unfold sgn; split <;> simpa using hcap
  rw [← hze]
  have W1 := (Below.refl w.heap.size w).alloc (Nat.le_refl _) (.cells #[.int .i64 k, .bool neg, .slice A l.length c, .int .u64 bits, .string t, .slice K kn kc] 33)
  have W2 := W1.alloc (by simp) (.cells #[.int .i64 0, .pointer none] 75)
  have W3 := W2.alloc (by simp only [World.size_alloc]; omega) (.cells #[.bool false, .slice none 0 0] 94)
  have b1 : Blk (((w.alloc (.cells #[.int .i64 k, .bool neg, .slice A l.length c, .int .u64 bits, .string t, .slice K kn kc] 33)).alloc (.cells #[.int .i64 0, .pointer none] 75)).alloc (.cells #[.bool false, .slice none 0 0] 94)) w.heap.size 33 #[.int .i64 k, .bool neg, .slice A l.length c, .int .u64 bits, .string t, .slice K kn kc] :=
    ((Blk.new w _ _).below ((Below.refl _ _).alloc (Nat.le_refl _) _)).below ((Below.refl _ _).alloc (Nat.le_refl _) _)
  have b2 : Blk (((w.alloc (.cells #[.int .i64 k, .bool neg, .slice A l.length c, .int .u64 bits, .string t, .slice K kn kc] 33)).alloc (.cells #[.int .i64 0, .pointer none] 75)).alloc (.cells #[.bool false, .slice none 0 0] 94)) (w.heap.size + 1) 75 #[.int .i64 0, .pointer none] := by
    have := (Blk.new (w.alloc (.cells #[.int .i64 k, .bool neg, .slice A l.length c, .int .u64 bits, .string t, .slice K kn kc] 33)) 75 #[.int .i64 0, .pointer none]).below ((Below.refl _ _).alloc (Nat.le_refl _) (.cells #[.bool false, .slice none 0 0] 94))
    rwa [World.size_alloc] at this
  have b3 : BI0 (((w.alloc (.cells #[.int .i64 k, .bool neg, .slice A l.length c, .int .u64 bits, .string t, .slice K kn kc] 33)).alloc (.cells #[.int .i64 0, .pointer none] 75)).alloc (.cells #[.bool false, .slice none 0 0] 94)) (w.heap.size + 1 + 1) := by
    have := Blk.new ((w.alloc (.cells #[.int .i64 k, .bool neg, .slice A l.length c, .int .u64 bits, .string t, .slice K kn kc] 33)).alloc (.cells #[.int .i64 0, .pointer none] 75)) 94 #[.bool false, .slice none 0 0]
    rwa [World.size_alloc, World.size_alloc] at this
  have hsb := SetBytes_any (w.heap.size + 1 + 1) A c l (by omega) hd _ (hs.below W3) b3
  rw [← hN] at hsb
  have HSB := Lib.hid hsb
  have B1 := Lib.hid b1
  have B2 := Lib.hid b2
  have HSZ : w.heap.size + 1 + 1 < (((w.alloc (.cells #[.int .i64 k, .bool neg, .slice A l.length c, .int .u64 bits, .string t, .slice K kn kc] 33)).alloc (.cells #[.int .i64 0, .pointer none] 75)).alloc (.cells #[.bool false, .slice none 0 0] 94)).heap.size := by simp only [World.size_alloc]; omega
  clear hsb b1 b2 b3 W1 W2 hs hlen hd hN hcap
  go_enter Tryz.func26, Tryz.ntmps26
  go_wp2_with fail
  generalize (((w.alloc (.cells #[.int .i64 k, .bool neg, .slice A l.length c, .int .u64 bits, .string t, .slice K kn kc] 33)).alloc (.cells #[.int .i64 0, .pointer none] 75)).alloc (.cells #[.bool false, .slice none 0 0] 94)) = W at *
  refine (HSB.out).mono ?_
  rintro e w1 ⟨rfl, hb1, ho1⟩
  have hz1 := ho1.size
  have k1 : Blk w1 w.heap.size 33 #[.int .i64 k, .bool neg, .slice A l.length c, .int .u64 bits, .string t, .slice K kn kc] := (ho1.block w.heap.size (by omega) (by simp; omega)).trans B1.out
  have k2 : Blk w1 (w.heap.size + 1) 75 #[.int .i64 0, .pointer none] := (ho1.block (w.heap.size + 1) (by omega) (by simp)).trans B2.out
  have hw1 : Below w.heap.size w w1 := kept_of_only W3 ho1 (by omega) (by omega)
  have hneg : w1.cell? ⟨w.heap.size, 1, none⟩ = some (.bool neg) := k1.cell 1
  have K2 := Lib.hid k2
  clear k1 k2 HSB B1 B2 W3
  have fin : ∀ w2 w3 v, Below w.heap.size w w2 → w.heap.size + 1 < w2.heap.size → Blk w2 (w.heap.size + 1) 75 #[.int .i64 0, .pointer none] → StIf w2.heap.size w3 v z → Kept w2 w3 → ∃ x p, v = .agg #[.int .i64 x, .pointer p] ∧ Hid (w3.heap[w.heap.size + 1]? = some (.cells #[.int .i64 0, .pointer none] 75 (0, 0))) ∧ RetStI w z (.returned v) (w3.setRow (w.heap.size + 1) #[.int .i64 x, .pointer p]) := by
    intro w2 w3 v h1 h2 h3 h4 h5
    obtain ⟨x, p, rfl⟩ := h4.two
    exact ⟨x, p, rfl, (h5.block _ h2).trans h3, _, rfl, (h4.setRow h2).mono (by have := h1.size; omega), below_setRow (h1.trans (h5.mono h1.size)) (by omega) _⟩
  have FIN := Lib.hid fin
  clear fin
  have HZE := Lib.hid hze
  clear hze
  rcases Bool.eq_false_or_eq_true neg with hzn | hzn
  · subst hzn
    go_wp2_with fail
    refine (Neg_any (w.heap.size + 1 + 1) _ w1 hb1).mono ?_
    rintro e w2 ⟨rfl, hb2, ho2⟩
    have hz2 : -((N : Nat) : Int) = z := HZE.out.symm
    rw [hz2] at hb2
    have HM := Lib.hid (MakeBigInt_any (w.heap.size + 1 + 1) z hz w2 hb2)
    have hk2 : Blk w2 (w.heap.size + 1) 75 #[.int .i64 0, .pointer none] := (ho2.block (w.heap.size + 1) (by omega) (by simp)).trans K2.out
    have hw2 : Below w.heap.size w w2 := kept_of_only hw1 ho2 (by omega) (by omega)
    have hs2 := ho2.size
    clear hz2 hneg
    go_wp2_with fail
    refine (HM.out).mono ?_
    rintro e w3 ⟨v, rfl, h4, h5⟩
    obtain ⟨x, p, rfl, H, hfin⟩ := FIN.out w2 w3 v hw2 (by omega) hk2 h4 h5
    go_wp2_with (refine wpList_store_row rfl 75 (.tmp 2) (.tmp 14) rfl (w.heap.size + 1) _ rfl rfl 75 _ H.out info_stI rfl (by simp [Value.oneCell']) ?_)
    refine bodyPost_blk (cs := #[.int .i64 x, .pointer p]) rfl rfl (setRow_heap _ _ _ _ _ _ H.out) Tryz.underlying75 rfl (by exact info_stI) rfl ?_
    exact hfin
  · subst hzn
    have hz2 : ((N : Nat) : Int) = z := HZE.out.symm
    rw [hz2] at hb1
    have HM := Lib.hid (MakeBigInt_any (w.heap.size + 1 + 1) z hz w1 hb1)
    clear hz2
    go_wp2_with fail
    refine (HM.out).mono ?_
    rintro e w3 ⟨v, rfl, h4, h5⟩
    obtain ⟨x, p, rfl, H, hfin⟩ := FIN.out w1 w3 v hw1 (by omega) K2.out h4 h5
    go_wp2_with (refine wpList_store_row rfl 75 (.tmp 2) (.tmp 14) rfl (w.heap.size + 1) _ rfl rfl 75 _ H.out info_stI rfl (by simp [Value.oneCell']) ?_)
    refine bodyPost_blk (cs := #[.int .i64 x, .pointer p]) rfl rfl (setRow_heap _ _ _ _ _ _ H.out) Tryz.underlying75 rfl (by exact info_stI) rfl ?_
    exact hfin
end Go.Proofs.YtoociokhldakbaaGreat
