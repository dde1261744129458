/- Ranges: how many numbers, and whether one is among them. -/
import Derived.Test.YtikjdibngkcpkaaSe
import Derived.Laws.EntriesVeiled
namespace Go.Proofs.Ytikjdibngkcpkaa
open Go.ChangeShapes Go.WideShapes Go.ChangeAt Go.RowKit
set_option linter.unusedVariables false
/-- how many numbers a range has -/
def cnt (a b s : Int) : Int := if 0 < s ∧ a < b then (b - 1 - a) / s + 1 else if s < 0 ∧ b < a then (a - 1 - b) / (-s) + 1 else 0
theorem div_up (x s : Int) (hs : 0 < s) : (x + s) / s = x / s + 1 := by
  have := Int.add_mul_ediv_right x 1 (show s ≠ 0 by omega)
  rwa [Int.one_mul] at this
theorem div_bd (x s : Int) (hx : 0 ≤ x) (hs : 0 < s) : 0 ≤ x / s ∧ x / s ≤ x := ⟨Int.ediv_nonneg hx (by omega), Int.ediv_le_self s hx⟩
theorem ret_bool {a b : Bool} (h : a = b) : Ending.returned (.bool a) = .returned (.bool b) := by rw [h]
set_option maxRecDepth 100000 in
theorem Count_any (a b s : Int) (a1 : -2147483648 ≤ a) (a2 : a ≤ 2147483647) (b1 : -2147483648 ≤ b) (b2 : b ≤ 2147483647) (s1 : -2147483648 ≤ s) (s2 : s ≤ 2147483647) (w : World) :
    Calls Try.prog 18 #[.int .i64 a, .int .i64 b, .int .i64 s] w fun e w' => e = .returned (.int .i64 (cnt a b s)) ∧ w = w' := by
  by_cases hp : 0 < s ∧ a < b
  · obtain ⟨p1, p2⟩ := hp
    have hc : (b - a + s - 1) / s = cnt a b s := by
      unfold cnt; rw [if_pos ⟨p1, p2⟩, ← div_up _ _ p1]; congr 1; omega
    have HC := Lib.hid hc
    have hb := div_bd (b - a + s - 1) s (by omega) p1
    obtain ⟨d1, d2⟩ := hb
    clear hc
    go_enter Try.func18, Try.ntmps18
    go_wp2_with fail
    go_ret
    exact ⟨ret_i64 HC.out, rfl⟩
  · by_cases hn : s < 0 ∧ b < a
    · obtain ⟨p1, p2⟩ := hn
      obtain ⟨t, rfl⟩ : ∃ t, s = -t := ⟨-s, by omega⟩
      have t1 : 1 ≤ t := by omega
      have hc : (a - b + t - 1) / t = cnt a b (-t) := by
        unfold cnt; rw [if_neg hp, if_pos ⟨p1, p2⟩, Int.neg_neg, ← div_up _ _ (by omega)]; congr 1; omega
      have HC := Lib.hid hc
      have hb := div_bd (a - b + t - 1) t (by omega) (by omega)
      obtain ⟨d1, d2⟩ := hb
      clear hc hp
      go_enter Try.func18, Try.ntmps18
      go_wp2_with fail
      go_ret
      exact ⟨ret_i64 HC.out, rfl⟩
    · have hc : 0 = cnt a b s := by unfold cnt; rw [if_neg hp, if_neg hn]
      have HC := Lib.hid hc
      have hd : (s ≤ 0 ∨ (0 < s ∧ b ≤ a)) ∧ (0 ≤ s ∨ (s < 0 ∧ a ≤ b)) := by omega
      clear hc hp hn
      rcases hd with ⟨h1 | ⟨h1, h1'⟩, h2 | ⟨h2, h2'⟩⟩
      all_goals
        first
          | (exfalso; omega)
          | (go_enter Try.func18, Try.ntmps18
             go_wp2_with fail
             go_ret
             exact ⟨ret_i64 HC.out, rfl⟩)
set_option maxRecDepth 100000 in
theorem rangeLen_any (a b s : Int) (a1 : -2147483648 ≤ a) (a2 : a ≤ 2147483647) (b1 : -2147483648 ≤ b) (b2 : b ≤ 2147483647) (s1 : -2147483648 ≤ s) (s2 : s ≤ 2147483647) (s0 : s ≠ 0) (w : World) :
    Calls Try.prog 68 #[.int .i64 a, .int .i64 b, .int .i64 s] w fun e w' => e = .returned (.int .i64 (cnt a b s)) ∧ w = w' := by
  by_cases hp : 0 < s ∧ a < b
  · obtain ⟨p1, p2⟩ := hp
    have hc : (b - 1 - a) / s + 1 = cnt a b s := by unfold cnt; rw [if_pos ⟨p1, p2⟩]
    have HC := Lib.hid hc
    obtain ⟨d1, d2⟩ := div_bd (b - 1 - a) s (by omega) p1
    clear hc
    go_enter Try.func68, Try.ntmps68
    go_wp2_with fail
    go_ret
    exact ⟨ret_i64 HC.out, rfl⟩
  · by_cases hn : s < 0 ∧ b < a
    · obtain ⟨p1, p2⟩ := hn
      obtain ⟨t, rfl⟩ : ∃ t, s = -t := ⟨-s, by omega⟩
      have t1 : 1 ≤ t := by omega
      have hc : (a - 1 - b) / t + 1 = cnt a b (-t) := by unfold cnt; rw [if_neg hp, if_pos ⟨p1, p2⟩, Int.neg_neg]
      have HC := Lib.hid hc
      obtain ⟨d1, d2⟩ := div_bd (a - 1 - b) t (by omega) (by omega)
      clear hc hp
      go_enter Try.func68, Try.ntmps68
      go_wp2_with fail
      go_ret
      exact ⟨ret_i64 HC.out, rfl⟩
    · have hc : 0 = cnt a b s := by unfold cnt; rw [if_neg hp, if_neg hn]
      have HC := Lib.hid hc
      have hd : (0 < s ∧ b ≤ a) ∨ (s < 0 ∧ a ≤ b) := by omega
      clear hc hp hn
      rcases hd with ⟨h1, h1'⟩ | ⟨h1, h1'⟩
      all_goals
        go_enter Try.func68, Try.ntmps68
        go_wp2_with fail
        go_ret
        exact ⟨ret_i64 HC.out, rfl⟩
theorem w32_in (n : Int) : -2147483648 ≤ wrap32 n ∧ wrap32 n ≤ 2147483647 := by unfold wrap32; omega
theorem w64_of (n : Int) (h1 : -2147483648 ≤ n) (h2 : n ≤ 2147483647) : wrap64 n = n := by unfold wrap64; omega
set_option maxRecDepth 100000 in
theorem Within32_any (n : Int) (w : World) :
    Calls Try.prog 38 #[.int .i64 n] w fun e w' => (∃ k : Int, e = .returned (.int .i64 k) ∧ -2147483648 ≤ k ∧ k ≤ 2147483647) ∧ w = w' := by
  go_enter Try.func38, Try.ntmps38
  go_wp2_with fail
  go_ret
  exact ⟨⟨wrap32 n, ret_i64 (w64_of _ (w32_in n).1 (w32_in n).2), w32_in n⟩, rfl⟩
def InR (k : Int) : Prop := -2147483648 ≤ k ∧ k ≤ 2147483647
/-- a range's numbers -/
def RetRanged (w : World) (e : Ending) (w' : World) : Prop := ∃ a b s : Int, e = .returned (.tuple #[.int .i64 a, .int .i64 b, .int .i64 s]) ∧ InR a ∧ InR b ∧ InR s ∧ s ≠ 0 ∧ w = w'
set_option maxRecDepth 100000 in
theorem ranged_any (a b s : Int) (w : World) :
    Calls Try.prog 16 #[.int .i64 a, .int .i64 b, .int .i64 s] w (RetRanged w) := by
  go_enter Try.func16, Try.ntmps16
  go_wp2_with fail
  refine (Within32_any a w).mono ?_
  rintro e w1 ⟨⟨a', rfl, a1, a2⟩, rfl⟩
  go_wp2_with fail
  refine (Within32_any b w).mono ?_
  rintro e w1 ⟨⟨b', rfl, b1, b2⟩, rfl⟩
  go_wp2_with fail
  refine (Within32_any s w).mono ?_
  rintro e w1 ⟨⟨s', rfl, s1, s2⟩, rfl⟩
  by_cases h0 : s' = 0
  · subst h0
    go_wp2_with fail
    go_ret3
    exact ⟨a', b', 1, rfl, ⟨a1, a2⟩, ⟨b1, b2⟩, ⟨by decide, by decide⟩, by decide, rfl⟩
  · have h1 : (s' == 0) = false := by simpa using h0
    go_wp2_with fail
    go_ret3
    exact ⟨a', b', s', rfl, ⟨a1, a2⟩, ⟨b1, b2⟩, ⟨s1, s2⟩, h0, rfl⟩
/-- z is one of the range's numbers -/
def hasR (a L s z : Int) : Bool := Sm z && decide ((z - a).tmod s = 0 ∧ 0 ≤ (z - a).tdiv s ∧ (z - a).tdiv s < L)
theorem tdiv_bd (x s : Int) (h1 : -4294967296 ≤ x) (h2 : x ≤ 4294967296) : -4294967296 ≤ x.tdiv s ∧ x.tdiv s ≤ 4294967296 := by
  have := Int.natAbs_tdiv_le_natAbs x s
  omega
theorem tmod_bd (x s : Int) (h1 : -4294967296 ≤ x) (h2 : x ≤ 4294967296) : -4294967296 ≤ x.tmod s ∧ x.tmod s ≤ 4294967296 := by
  have h : (x.tmod s).natAbs ≤ x.natAbs := by rw [Int.natAbs_tmod]; exact Nat.mod_le _ _
  omega
set_option maxRecDepth 100000 in
theorem errNew_any (s : ByteArray) (w : World) :
    Calls Try.prog 117 #[.string s] w fun e w' => (∃ u, e = .returned (.iface 166 u)) ∧ Kept w w' := by
  go_enter Try.func117, Try.ntmps117
  go_wp2_with fail
  go_ret
  exact ⟨⟨_, rfl⟩, by go_grown⟩
/-- what AsInt32 hands back -/
def RetI32 (w : World) (z : Int) (e : Ending) (w' : World) : Prop :=
  ((Sm z = true ∧ e = .returned (.tuple #[.int .i64 z, .nilIface])) ∨ (Sm z = false ∧ ∃ u, e = .returned (.tuple #[.int .i64 0, .iface 166 u]))) ∧ Kept w w'
set_option maxRecDepth 100000 in
theorem AsInt32_any (x : Int) (p : Option Addr) (z : Int) (w : World) (hv : StI w (.agg #[.int .i64 x, .pointer p]) z) :
    Calls Try.prog 96 #[.iface 71 (.agg #[.int .i64 x, .pointer p])] w (RetI32 w z) := by
  have hf : ∀ W : World, (Instr.typeAssert (.iface 71 (.agg #[.int .i64 x, .pointer p])) 153 71 true).run Try.prog W = .ok (.tuple #[.agg #[.int .i64 x, .pointer p], .bool true]) W := fun _ => by kernel_rfl
  have hk0 : Kept w (w.alloc (.cells #[.int .i64 x, .pointer p] 71)) := by go_grown
  rcases hv with ⟨e, hs⟩ | ⟨g, e, hb, hs⟩
  · injection e with e; injection e with e; injection e with e1 e2; injection e2 with e2 _; injection e1 with _ e1; injection e2 with e2; subst e1 e2
    go_enter Try.func96, Try.ntmps96
    go_wp2_with fail
    refine (get_any x none _).mono ?_
    rintro e w1 ⟨rfl, hk1⟩
    have hkk := (alloc_kept hk1).1
    go_wp2_with fail
    go_ret2
    exact ⟨.inl ⟨hs, rfl⟩, hkk⟩
  · injection e with e; injection e with e; injection e with e1 e2; injection e2 with e2 _; injection e1 with _ e1; injection e2 with e2; subst e1 e2
    clear hb
    go_enter Try.func96, Try.ntmps96
    go_wp2_with fail
    refine (get_any 0 (some ⟨g, 0, none⟩) _).mono ?_
    rintro e w1 ⟨rfl, hk1⟩
    have hkk := (alloc_kept hk1).1
    go_wp2_with fail
    refine (errNew_any _ _).mono ?_
    rintro e w2 ⟨⟨u, rfl⟩, hk2⟩
    go_wp2_with fail
    go_ret2
    exact ⟨.inr ⟨hs, u, rfl⟩, hkk.trans hk2⟩
set_option maxRecDepth 100000 in
set_option maxHeartbeats 1000000 in
theorem contains_any (a b s L x : Int) (p : Option Addr) (z : Int) (ha : InR a) (hs : InR s) (s0 : s ≠ 0) (w : World) (hv : StI w (.agg #[.int .i64 x, .pointer p]) z) :
    Calls Try.prog 69 #[.agg #[.int .i64 a, .int .i64 b, .int .i64 s, .int .i64 L], .agg #[.int .i64 x, .pointer p]] w fun e w' => e = .returned (.bool (hasR a L s z)) ∧ Kept w w' := by
  have hk0 : Kept w ((w.alloc (.cells #[.int .i64 a, .int .i64 b, .int .i64 s, .int .i64 L] 110)).alloc (.cells #[.int .i64 x, .pointer p] 71)) := by go_grown
  have b1 : Blk ((w.alloc (.cells #[.int .i64 a, .int .i64 b, .int .i64 s, .int .i64 L] 110)).alloc (.cells #[.int .i64 x, .pointer p] 71)) w.heap.size 110 #[.int .i64 a, .int .i64 b, .int .i64 s, .int .i64 L] := (Blk.new w _ _).below ((Below.refl _ _).alloc (Nat.le_refl _) _)
  have HV := Lib.hid (hv.below hk0)
  clear hv
  obtain ⟨a1, a2⟩ := ha
  obtain ⟨s1, s2⟩ := hs
  go_enter Try.func69, Try.ntmps69
  go_wp2_with fail
  generalize ((w.alloc (.cells #[.int .i64 a, .int .i64 b, .int .i64 s, .int .i64 L] 110)).alloc (.cells #[.int .i64 x, .pointer p] 71)) = W at *
  refine (AsInt32_any x p z W HV.out).mono ?_
  rintro e w1 ⟨hcase, hk1⟩
  have hkk : Kept w w1 := Below.trans hk0 (hk1.mono hk0.size)
  have c1 : w1.cell? ⟨w.heap.size, 0, none⟩ = some (.int .i64 a) := (b1.below hk1).cell 0
  have c2 : w1.cell? ⟨w.heap.size, 2, none⟩ = some (.int .i64 s) := (b1.below hk1).cell 2
  have c3 : w1.cell? ⟨w.heap.size, 3, none⟩ = some (.int .i64 L) := (b1.below hk1).cell 3
  clear b1 hk1 hk0
  rcases hcase with ⟨hS, rfl⟩ | ⟨hS, u, rfl⟩
  · obtain ⟨z1, z2⟩ := of_decide_eq_true hS
    have HR : Hid (hasR a L s z = decide ((z - a).tmod s = 0 ∧ 0 ≤ (z - a).tdiv s ∧ (z - a).tdiv s < L)) := Lib.hid (by unfold hasR; rw [hS, Bool.true_and])
    obtain ⟨q1, q2⟩ := tdiv_bd (z - a) s (by omega) (by omega)
    obtain ⟨r1, r2⟩ := tmod_bd (z - a) s (by omega) (by omega)
    have w1' : IntKind.i64.wrap ((z - a).tdiv s) = (z - a).tdiv s := IntWalk.i64_in _ (by omega)
    have w2' : IntKind.i64.wrap ((z - a).tmod s) = (z - a).tmod s := IntWalk.i64_in _ (by omega)
    have s3 : (s == 0) = false := by simpa using s0
    clear hS
    go_wp2_with fail
    go_quiet (fail)
    go_wp2_with fail
    all_goals
      go_ret
      refine ⟨ret_bool ?_, hkk.trans ⟨rfl, rfl, rfl, Nat.le_refl _, fun _ _ => rfl⟩⟩
      rw [HR.out, Bool.eq_iff_iff]
      simp only [decide_eq_true_eq, Bool.false_eq_true, false_iff]
      omega
  · have HR : Hid (hasR a L s z = false) := Lib.hid (by unfold hasR; rw [hS]; rfl)
    go_wp2_with fail
    go_ret
    exact ⟨ret_bool HR.out.symm, hkk⟩
set_option maxRecDepth 100000 in
set_option maxHeartbeats 1000000 in
theorem ZzRangeHas_any (a b s x : Int) (p : Option Addr) (z : Int) (ha : InR a) (hb : InR b) (hs : InR s) (s0 : s ≠ 0) (w : World) (hv : StI w (.agg #[.int .i64 x, .pointer p]) z) :
    Calls Try.prog 41 #[.int .i64 a, .int .i64 b, .int .i64 s, .agg #[.int .i64 x, .pointer p]] w fun e w' => e = .returned (.bool (hasR a (cnt a b s) s z)) ∧ Kept w w' := by
  have hk0 : Kept w (w.alloc (.cells #[.int .i64 x, .pointer p] 71)) := by go_grown
  have b1 := Blk.new w 71 #[.int .i64 x, .pointer p]
  have HV := Lib.hid (hv.below hk0)
  have HA := Lib.hid ha
  have HB := Lib.hid hb
  have HS := Lib.hid hs
  have H0 := Lib.hid s0
  clear hv ha hb hs s0
  have HLN := fun W => Lib.hid (rangeLen_any a b s HA.out.1 HA.out.2 HB.out.1 HB.out.2 HS.out.1 HS.out.2 H0.out W)
  generalize hL : cnt a b s = L at *
  have HL := Lib.hid hL
  clear hL
  go_enter Try.func41, Try.ntmps41
  go_wp2_with fail
  generalize (w.alloc (.cells #[.int .i64 x, .pointer p] 71)) = W at *
  have c1 : W.cell? ⟨w.heap.size, 0, none⟩ = some (.int .i64 x) := b1.cell 0
  have c2 : W.cell? ⟨w.heap.size, 1, none⟩ = some (.pointer p) := b1.cell 1
  have l1 := b1.lt
  have KEEP : Hid (∀ X : World, Kept W X → X.cell? ⟨w.heap.size, 0, none⟩ = some (.int .i64 x) ∧ X.cell? ⟨w.heap.size, 1, none⟩ = some (.pointer p)) := Lib.hid fun X h => ⟨(h.cell l1).trans c1, (h.cell l1).trans c2⟩
  clear b1
  go_region_held3 (fun X : World => X.cell? ⟨w.heap.size, 0, none⟩ = some (.int .i64 x) ∧ X.cell? ⟨w.heap.size, 1, none⟩ = some (.pointer p))
    (first | exact KEEP.out _ (by go_grown))
    (first
      | (go_at_call 68
         (with_reducible refine Calls.mono (HLN _).out ?_)
         rintro e w3 ⟨rfl, rfl⟩)
      | (go_at_call 69
         (with_reducible refine Calls.mono (contains_any a b s L x p z HA.out HS.out H0.out _ ?_) ?_)
         · exact HV.out.below (by go_grown)
         generalize hR : hasR a L s z = R
         have HR := Lib.hid hR
         clear hR
         rintro e w4 ⟨rfl, hk4'⟩
         have hk4 : Kept W w4 := Below.trans (by go_grown) (hk4'.mono (by go_size))
         clear hk4'))
  go_wp2_with fail
  go_ret
  exact ⟨ret_bool HR.out.symm, Below.trans hk0 (hk4.mono hk0.size)⟩
set_option maxRecDepth 100000 in
theorem RangeHas_any (a b s : Int) (v : Value) (z : Int) (ha : InR a) (hb : InR b) (hs : InR s) (s0 : s ≠ 0) (hz : z.natAbs < Num.Cap) (w : World) (hv : VI w v z) :
    Calls Try.prog 19 #[.int .i64 a, .int .i64 b, .int .i64 s, v] w fun e w' => e = .returned (.bool (hasR a (cnt a b s) s z)) ∧ Kept w w' := by
  have HV := Lib.hid hv
  obtain ⟨A, c, l, rfl, _, _⟩ := hv
  have hk0 : Kept w (w.alloc (.cells #[.int .i64 2, .bool (decide (z < 0)), .slice A l.length c, .int .u64 0, .string ⟨#[]⟩, .slice none 0 0] 28)) := by go_grown
  have HW := Lib.hid (whole_any _ z hz _ (HV.out.below hk0))
  have HA := Lib.hid ha
  have HB := Lib.hid hb
  have HS := Lib.hid hs
  have H0 := Lib.hid s0
  clear ha hb hs s0
  generalize hR : hasR a (cnt a b s) s z = R
  have HR := Lib.hid hR
  clear hR
  go_enter Try.func19, Try.ntmps19
  go_wp2_with fail
  generalize (w.alloc (.cells #[.int .i64 2, .bool (decide (z < 0)), .slice A l.length c, .int .u64 0, .string ⟨#[]⟩, .slice none 0 0] 28)) = W at *
  refine (HW.out).mono ?_
  rintro e w1 ⟨v1, rfl, hv1, hk1⟩
  have HV1 := Lib.hid hv1.toStI
  obtain ⟨x, p, rfl⟩ := hv1.two
  have hkk : Kept w w1 := Below.trans hk0 (hk1.mono hk0.size)
  clear hv1 hk0 hk1 HW HV
  go_wp2_with fail
  refine (ZzRangeHas_any a b s x p z HA.out HB.out HS.out H0.out w1 HV1.out).mono ?_
  rw [HR.out]
  rintro e w2 ⟨rfl, hk2⟩
  go_wp2_with fail
  go_ret
  exact ⟨rfl, hkk.trans hk2⟩
end Go.Proofs.Ytikjdibngkcpkaa
