/- Floats: their parts, what is no number, what is infinite; a value's number. -/
import Derived.Test.YtoociokhldakbaaGreatO5
import Derived.Laws.Externs
import Derived.Laws.BitsAllLaws
import Derived.Deep.RegionHeld3
import Derived.OwnWalk
namespace Go.Proofs.YtoociokhldakbaaGreat
open Go.ChangeShapes Go.WideShapes Go.ChangeAt Go.RowKit
set_option linter.unusedVariables false
theorem info_SInt : (Tryz.prog.info? 65).map (·.size) = some 2 := by kernel_rfl
theorem run_bits (b : Nat) (w : World) : (callFunc 75 #[.float .f64 b]).run Tryz.prog w = .ok (.value (.int .u64 (b : Int))) w := by
  rw [run_callFunc_extern (fn := Tryz.f75) (e := Extern.MathFloatBits.float64bits) (by kernel_rfl) (by kernel_rfl) (by kernel_rfl) (by kernel_rfl) (by kernel_rfl) _ w]
  rfl
set_option maxRecDepth 100000 in
set_option maxHeartbeats 1000000 in
theorem Num_any (k q : Int) (b : Bool) (A K : Option Addr) (c kl kc : Nat) (T : ByteArray) (l : List Nat) (hl : l.length ≤ 140737488351232) (hd : ∀ d ∈ l, d < 256) (w : World) (hs : Sl w A c (by8 l)) :
    Calls Tryz.prog 54 #[.agg #[.int .i64 k, .bool b, .slice A l.length c, .int .u64 q, .string T, .slice K kl kc]] w (RetSI w (sgn b (Num.le 256 l.reverse))) := by
  obtain ⟨W, hW⟩ : ∃ W, W = ((w.alloc (.cells #[.int .i64 k, .bool b, .slice A l.length c, .int .u64 q, .string T, .slice K kl kc] 33)).alloc (.cells #[.bool false, .slice none 0 0] 65)) := ⟨_, rfl⟩
  have hk : Kept w W := by rw [hW]; exact ((Below.refl _ _).alloc (Nat.le_refl _) _).alloc (by simp) _
  have hb1 : Blk W (w.heap.size + 1) 65 #[.bool false, .slice none 0 0] := by
    rw [hW]
    have := Blk.new (w.alloc (.cells #[.int .i64 k, .bool b, .slice A l.length c, .int .u64 q, .string T, .slice K kl kc] 33)) 65 #[.bool false, .slice none 0 0]
    rwa [World.size_alloc] at this
  have HO := Lib.hid (Of_any b A c l hl hd W (hs.below hk))
  have HK := Lib.hid hk
  have HB := Lib.hid hb1
  clear hs hk hb1
  subst hW
  go_enter Tryz.func54, Tryz.ntmps54
  go_wp2_with fail
  refine HO.out.mono ?_
  rintro e w1 ⟨v, rfl, hv, hk1⟩
  have hzs := HB.out.lt
  have HV := Lib.hid hv
  obtain ⟨b', A', n', c', rfl⟩ := hv.two
  have hb2 := HB.out.below hk1
  have hst := run_storeVar_row (P := Tryz.prog) w1 (w.heap.size + 1) 65 65 _ #[.bool b', .slice A' n' c'] hb2 info_SInt rfl (by simp [Value.oneCell'])
  have HB2 : Hid (Blk (w1.setRow (w.heap.size + 1) #[.bool b', .slice A' n' c']) (w.heap.size + 1) 65 #[.bool b', .slice A' n' c']) := Lib.hid (setRow_heap _ _ _ _ _ _ hb2)
  have HKF := Lib.hid (below_setRow (Kept.trans HK.out hk1) (show w.heap.size ≤ w.heap.size + 1 by omega) #[.bool b', .slice A' n' c'])
  have HVF := Lib.hid ((HV.out.setRow (show w.heap.size + 1 < _ from hzs) #[.bool b', .slice A' n' c']).mono (show w.heap.size ≤ _ by omega))
  clear hv hk1 hb2 HB HO HK HV
  simp [go_sem] at hst
  go_wp2_with fail
  refine bodyPost_blk (cs := #[.bool b', .slice A' n' c']) rfl rfl HB2.out Tryz.underlying65 rfl (by exact info_SInt) rfl ?_
  exact ⟨_, rfl, HVF.out, HKF.out⟩
set_option maxRecDepth 100000 in
theorem number_any (k : Int) (q : Value) (b : Bool) (A K : Option Addr) (m c kl kc : Nat) (T : ByteArray) (w : World) :
    Calls Tryz.prog 45 #[.agg #[.int .i64 k, .bool b, .slice A m c, q, .string T, .slice K kl kc]] w fun e w' => (∃ r, e = .returned (.bool r) ∧ (r = true ↔ k = 2 ∨ k = 3)) ∧ Kept w w' := by
  have hk : Kept w (w.alloc (.cells #[.int .i64 k, .bool b, .slice A m c, q, .string T, .slice K kl kc] 33)) := by go_grown
  by_cases h2 : k = 2
  · subst h2
    go_enter Tryz.func45, Tryz.ntmps45
    go_wp2_with fail
    go_ret
    exact ⟨⟨true, rfl, by simp⟩, hk⟩
  · by_cases h3 : k = 3
    · subst h3
      go_enter Tryz.func45, Tryz.ntmps45
      go_wp2_with fail
      go_ret
      exact ⟨⟨true, rfl, by simp⟩, hk⟩
    · have e2 : (k == 2) = false := by simpa using h2
      have e3 : (k == 3) = false := by simpa using h3
      go_enter Tryz.func45, Tryz.ntmps45
      go_wp2_with fail
      go_ret
      exact ⟨⟨false, rfl, by simp [h2, h3]⟩, hk⟩
set_option maxRecDepth 100000 in
theorem Fl_any (k : Int) (q : Nat) (b : Bool) (A K : Option Addr) (m c kl kc : Nat) (T : ByteArray) (w : World) :
    Calls Tryz.prog 57 #[.agg #[.int .i64 k, .bool b, .slice A m c, .int .u64 (q : Int), .string T, .slice K kl kc]] w fun e w' => e = .returned (.float .f64 q) ∧ Kept w w' := by
  have hk : Kept w (w.alloc (.cells #[.int .i64 k, .bool b, .slice A m c, .int .u64 (q : Int), .string T, .slice K kl kc] 33)) := by go_grown
  have h1 := fun W => run_frombits q W
  go_enter Tryz.func57, Tryz.ntmps57
  go_wp2_with fail
  go_ret
  exact ⟨rfl, hk⟩
set_option maxRecDepth 100000 in
theorem IsNaN_any (b : Nat) (w : World) : Calls Tryz.prog 64 #[.float .f64 b] w fun e w' => (∃ r, e = .returned (.bool r)) ∧ w = w' := by
  go_enter Tryz.func64, Tryz.ntmps64
  go_wp2_with fail
  go_ret
  exact ⟨⟨_, rfl⟩, rfl⟩
set_option maxRecDepth 100000 in
theorem IsInf_any (b : Nat) (s : Int) (hs : s = 1 ∨ s = -1) (w : World) : Calls Tryz.prog 65 #[.float .f64 b, .int .i64 s] w fun e w' => (∃ r, e = .returned (.bool r)) ∧ w = w' := by
  have hneg : ∃ nb, ∀ W : World, (Op.unary .neg (.float .f64 b)).run Tryz.prog W = .ok (.float .f64 nb) W := ⟨_, fun W => rfl⟩
  obtain ⟨nb, hneg⟩ := hneg
  rcases hs with rfl | rfl
  all_goals
    go_enter Tryz.func65, Tryz.ntmps65
    go_wp2_with fail
    go_ret
    exact ⟨⟨_, rfl⟩, rfl⟩
theorem land_lt (a b : Nat) (ha : a < 18446744073709551616) (hb : b < 18446744073709551616) : ∃ c : Nat, bits .and .u64 (a : Int) (b : Int) = (c : Int) ∧ c ≤ a ∧ c ≤ b :=
  ⟨a &&& b, u64_and_nat a b ha hb, Nat.and_le_left, Nat.and_le_right⟩
set_option maxRecDepth 100000 in
theorem floatParts_any (b : Nat) (hb : b < 18446744073709551616) (w : World) : Calls Tryz.prog 70 #[.float .f64 b] w fun e w' => (∃ (s : Bool) (m : Nat) (p : Int), e = .returned (.tuple #[.bool s, .int .u64 (m : Int), .int .i64 p]) ∧ m < 9007199254740992 ∧ -1074 ≤ p ∧ p ≤ 972) ∧ w = w' := by
  have h1 := fun W => run_bits b W
  obtain ⟨p, e1, _, hp⟩ := land_lt (b / 4503599627370496) 2047 (by omega) (by decide)
  obtain ⟨m, e2, _, hm⟩ := land_lt b 4503599627370495 hb (by decide)
  have e3 : bits .or .u64 (m : Int) 4503599627370496 = ((m ||| 4503599627370496 : Nat) : Int) := u64_or_nat m 4503599627370496 (by omega) (by decide)
  have hor : m ||| 4503599627370496 < 9007199254740992 := Nat.or_lt_two_pow (n := 53) (by omega) (by decide)
  generalize m ||| 4503599627370496 = mo at *
  have hpI : wrap64 (p : Int) = (p : Int) := by unfold wrap64; omega
  have eb : ((b / 4503599627370496 : Nat) : Int) = (b : Int) / 4503599627370496 := by omega
  rw [eb] at e1
  replace e1 : bits .and .u64 ((b : Int) / 4503599627370496) 2047 = (p : Int) := e1
  replace e2 : bits .and .u64 (b : Int) 4503599627370495 = (m : Int) := e2
  have HM : Hid (m < 9007199254740992 ∧ mo < 9007199254740992 ∧ p ≤ 2047) := Lib.hid ⟨by omega, hor, hp⟩
  by_cases hp0 : p = 0
  · subst hp0
    replace hpI : wrap64 0 = 0 := hpI
    replace e1 : bits .and .u64 ((b : Int) / 4503599627370496) 2047 = 0 := e1
    clear hb hm hor hp
    go_enter Tryz.func70, Tryz.ntmps70
    go_wp2_with fail
    go_ret3
    exact ⟨⟨_, _, _, rfl, HM.out.1, by omega, by omega⟩, rfl⟩
  · have hpz : ¬ (p : Int) = 0 := by omega
    have e4 : wrap64 ((p : Int) - 1075) = (p : Int) - 1075 := by unfold wrap64; omega
    clear hb hm hor hp
    go_enter Tryz.func70, Tryz.ntmps70
    go_wp2_with fail
    go_ret3
    exact ⟨⟨_, _, _, rfl, HM.out.2.1, by have := HM.out.2.2; omega, by have := HM.out.2.2; omega⟩, rfl⟩
end Go.Proofs.YtoociokhldakbaaGreat
