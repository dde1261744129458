/- A float's whole part. -/
import Derived.Test.YtoociokhldakbaaGreatO6
import Derived.Laws.Externs
import Derived.Laws.BitsAllLaws
import Derived.Deep.RegionHeld3
import Derived.OwnWalk
namespace Go.Proofs.YtoociokhldakbaaGreat
open Go.ChangeShapes Go.WideShapes Go.ChangeAt Go.RowKit
set_option linter.unusedVariables false
theorem results_row_tmp {fn : Func} {p q : Tmp} {ty : TypeId} (h : fn.results = #[.cell p ty, .tmp q]) (P : Program) (tmps : Array Value) (w : World) (g : Nat) (t : TypeId) (cs : Array Value) (fr : Nat × Nat)
    (hp : tmps.getD p undef = .pointer (some ⟨g, 0, none⟩)) (hg : w.heap[g]? = some (.cells cs t fr))
    (hu : ∃ fs, P.underlying ty = some (.struct fs)) (hi : (P.info? ty).map (·.size) = some cs.size) :
    (results fn tmps).run P w = .ok (.tuple #[.agg cs, tmps.getD q undef]) w := by
  have e : tmps[p]?.getD undef = .pointer (some ⟨g, 0, none⟩) := by simpa using hp
  obtain ⟨fs, hu⟩ := hu
  simp [results, h, e, asAddr, run_loadVar_row w g t ty cs fr _ hg hu rfl hi]
theorem whole_end {w w4 : World} {z : Int} {b' : Bool} {A' : Option Addr} {n' c' : Nat} {B : Nat} (hlt : w.heap.size < B) (hv : SIf B w4 (.agg #[.bool b', .slice A' n' c']) z) (hk : Kept w w4) (hz : w.heap.size < w4.heap.size) :
    SIf w.heap.size (w4.setRow w.heap.size #[.bool b', .slice A' n' c']) (.agg #[.bool b', .slice A' n' c']) z ∧ Kept w (w4.setRow w.heap.size #[.bool b', .slice A' n' c']) :=
  ⟨(hv.setRow hlt _).mono (by omega), below_setRow hk (Nat.le_refl _) _⟩
theorem SIf.zero (B : Nat) (w : World) : SIf B w (.agg #[.bool false, .slice none 0 0]) 0 :=
  ⟨none, 0, [], rfl, Sl.nil w, BE.zero, fun b off e => by cases e⟩
set_option maxRecDepth 100000 in
set_option maxHeartbeats 1000000 in
theorem Whole_any (b : Nat) (hb : b < 18446744073709551616) (w : World) : Calls Tryz.prog 66 #[.float .f64 b] w fun e w' => (∃ (b1 : Bool) (A1 : Option Addr) (n1 c1 : Nat) (z : Int) (r : Bool), e = .returned (.tuple #[.agg #[.bool b1, .slice A1 n1 c1], .bool r]) ∧ SIf w.heap.size w' (.agg #[.bool b1, .slice A1 n1 c1]) z) ∧ Kept w w' := by
  have b0 : Blk (w.alloc (.cells #[.bool false, .slice none 0 0] 65)) w.heap.size 65 #[.bool false, .slice none 0 0] := Blk.new w _ _
  have k0 : Kept w (w.alloc (.cells #[.bool false, .slice none 0 0] 65)) := (Below.refl _ _).alloc (Nat.le_refl _) _
  have z0 : w.heap.size < (w.alloc (.cells #[.bool false, .slice none 0 0] 65)).heap.size := by rw [World.size_alloc]; omega
  have HFP := Lib.hid (fun W => floatParts_any b hb W)
  clear hb
  go_enter Tryz.func66, Tryz.ntmps66
  go_wp2_with fail
  generalize w.alloc (.cells #[.bool false, .slice none 0 0] 65) = W at *
  refine (HFP.out W).mono ?_
  rintro e w1 ⟨⟨s, m, p, rfl, hm, hp1, hp2⟩, rfl⟩
  have CBO := Lib.hid (fun X => bytesOf_any m (by omega) X)
  have hm64 : Hid (m < 18446744073709551616) := Lib.hid (by omega)
  have HP := Lib.hid (And.intro hp1 hp2)
  have HB0 := Lib.hid b0
  have HK0 := Lib.hid k0
  have HZ0 := Lib.hid z0
  clear hm hp1 hp2 b0 k0 z0
  go_wp2_with fail
  refine (CBO.out W).mono ?_
  rintro e w2 ⟨rfl, hs2, hk2⟩
  have COF : Hid (Calls Tryz.prog 22 #[.bool s, .slice (some ⟨W.heap.size, 0, none⟩) 8 8] w2 (RetSI w2 (sgn s (Num.le 256 (Num.be m 8).reverse)))) := Lib.hid (by
    have := Of_any s (some ⟨W.heap.size, 0, none⟩) 8 (Num.be m 8) (by rw [Num.be_len]; decide) (Num.be_lt m 8) w2 hs2
    rwa [Num.be_len] at this)
  have HFW := Lib.hid (few_of s (Num.be m 8) (Num.be_lt m 8) 8 (by rw [Num.be_len]; omega))
  generalize sgn s (Num.le 256 (Num.be m 8).reverse) = z at *
  have HK2 := Lib.hid (HK0.out.trans (hk2))
  have HB2 := Lib.hid (HB0.out.below hk2)
  have HZ2 : Hid (w.heap.size < w2.heap.size) := Lib.hid (Nat.lt_of_lt_of_le HZ0.out hk2.size)
  clear hs2 hk2
  go_wp2_with fail
  refine COF.out.mono ?_
  rintro e w3 ⟨v, rfl, hv, hk3⟩
  have HV := Lib.hid hv
  obtain ⟨b1, A1, n1, c1, rfl⟩ := hv.two
  have hk3a : Kept w2 (w3.alloc (.cells #[.bool b1, .slice A1 n1 c1] 65)) := hk3.alloc hk3.size _
  have HB3 := Lib.hid (HB2.out.below hk3a)
  have HK3 := Lib.hid (HK2.out.trans (hk3a))
  have HZ3 : Hid (w.heap.size < (w3.alloc (.cells #[.bool b1, .slice A1 n1 c1] 65)).heap.size) := Lib.hid (Nat.lt_of_lt_of_le HZ2.out hk3a.size)
  have HV3 := Lib.hid (HV.out.below ((Below.refl _ w3).alloc (Nat.le_refl _) (.cells #[.bool b1, .slice A1 n1 c1] 65)))
  have B3 := Blk.new w3 65 #[.bool b1, .slice A1 n1 c1]
  clear hv hk3 hk3a HV
  by_cases h0 : 0 ≤ p
  · obtain ⟨q, r, hr, ep⟩ : ∃ q r : Nat, r < 8 ∧ p = 8 * (q : Int) + (r : Int) := ⟨p.toNat / 8, p.toNat % 8, by omega, by omega⟩
    have CLS : Hid (∀ X, SI X (.agg #[.bool b1, .slice A1 n1 c1]) z → Calls Tryz.prog 72 #[.agg #[.bool b1, .slice A1 n1 c1], .int .i64 p] X (RetSI X (z * ((2 ^ (8 * q + r) : Nat) : Int)))) := Lib.hid fun X h => by
      rw [ep]
      exact sLsh_any b1 A1 n1 c1 z q r hr (by have := HP.out; omega) (few_cap (by decide) HFW.out) X h
    generalize z * ((2 ^ (8 * q + r) : Nat) : Int) = D at *
    clear ep hr HP
    go_wp2_with fail
    refine (CLS.out _ HV3.out.toSI).mono ?_
    rintro e w4 ⟨v4, rfl, hv4, hk4⟩
    have HV4 := Lib.hid hv4
    obtain ⟨b4, A4, n4, c4, rfl⟩ := hv4.two
    have HB4 := Lib.hid (HB3.out.below hk4)
    have HE := Lib.hid (whole_end HZ3.out HV4.out (HK3.out.trans (hk4)) (Nat.lt_of_lt_of_le HZ3.out hk4.size))
    have hst := run_storeVar_row (P := Tryz.prog) w4 w.heap.size 65 65 _ #[.bool b4, .slice A4 n4 c4] HB4.out info_SInt rfl (by simp [Value.oneCell'])
    simp [go_sem] at hst
    clear hv4 hk4
    go_wp2_with fail
    refine bodyPost_ret (results_row_tmp rfl _ _ _ w.heap.size 65 _ _ rfl (setRow_heap _ _ _ _ _ _ HB4.out) ⟨_, Tryz.underlying65⟩ (by exact info_SInt)) rfl ?_
    exact ⟨⟨_, _, _, _, _, _, rfl, HE.out.1⟩, HE.out.2⟩
  · by_cases h63 : p < -63
    · have HE := Lib.hid (whole_end (z := 0) (b' := false) (A' := none) (n' := 0) (c' := 0) HZ3.out (SIf.zero _ _) HK3.out HZ3.out)
      have hst := run_storeVar_row (P := Tryz.prog) (w3.alloc (.cells #[.bool b1, .slice A1 n1 c1] 65)) w.heap.size 65 65 _ #[.bool false, .slice none 0 0] HB3.out info_SInt rfl (by simp [Value.oneCell'])
      simp [go_sem] at hst
      go_wp2_with fail
      refine bodyPost_ret (results_row_tmp rfl _ _ _ w.heap.size 65 _ _ rfl (setRow_heap _ _ _ _ _ _ HB3.out) ⟨_, Tryz.underlying65⟩ (by exact info_SInt)) rfl ?_
      exact ⟨⟨_, _, _, _, _, _, rfl, HE.out.1⟩, HE.out.2⟩
    · obtain ⟨k, hk, rfl⟩ : ∃ k : Nat, k ≤ 63 ∧ p = -(k : Int) := ⟨(-p).toNat, by omega, by omega⟩
      have HMK : Hid (m / 2 ^ k < 18446744073709551616) := Lib.hid (Nat.lt_of_le_of_lt (Nat.div_le_self _ _) hm64.out)
      have eM : Hid ((m : Int) / 2 ^ k = ((m / 2 ^ k : Nat) : Int)) := Lib.hid (by rw [Int.natCast_ediv, Int.natCast_pow]; rfl)
      go_wp2_with fail
      rw [eM.out]
      generalize m / 2 ^ k = M at *
      clear eM
      refine (bytesOf_any M HMK.out _).mono ?_
      rintro e w4 ⟨rfl, hs4, hk4⟩
      have COF4 : Hid (Calls Tryz.prog 22 #[.bool s, .slice (some ⟨(w3.alloc (.cells #[.bool b1, .slice A1 n1 c1] 65)).heap.size, 0, none⟩) 8 8] w4 (RetSI w4 (sgn s (Num.le 256 (Num.be M 8).reverse)))) := Lib.hid (by
        have := Of_any s (some ⟨(w3.alloc (.cells #[.bool b1, .slice A1 n1 c1] 65)).heap.size, 0, none⟩) 8 (Num.be M 8) (by rw [Num.be_len]; decide) (Num.be_lt M 8) w4 hs4
        rwa [Num.be_len] at this)
      generalize sgn s (Num.le 256 (Num.be M 8).reverse) = z4 at *
      have HK4 := Lib.hid (HK3.out.trans hk4)
      have HB4 := Lib.hid (HB3.out.below hk4)
      have HZ4 : Hid (w.heap.size < w4.heap.size) := Lib.hid (Nat.lt_of_lt_of_le HZ3.out hk4.size)
      clear hs4 hk4
      generalize (w3.alloc (.cells #[.bool b1, .slice A1 n1 c1] 65)).heap.size = sz at *
      generalize IntKind.u64.wrap (IntKind.u64.wrap (2 ^ k) - 1) = msk at *
      go_wp2_with fail
      refine COF4.out.mono ?_
      rintro e w5 ⟨v5, rfl, hv5, hk5⟩
      have HV5 := Lib.hid hv5
      obtain ⟨b5, A5, n5, c5, rfl⟩ := hv5.two
      have HB5 := Lib.hid (HB4.out.below hk5)
      have HE := Lib.hid (whole_end HZ4.out HV5.out (HK4.out.trans hk5) (Nat.lt_of_lt_of_le HZ4.out hk5.size))
      have hst := run_storeVar_row (P := Tryz.prog) w5 w.heap.size 65 65 _ #[.bool b5, .slice A5 n5 c5] HB5.out info_SInt rfl (by simp [Value.oneCell'])
      simp [go_sem] at hst
      clear hv5 hk5
      go_wp2_with fail
      refine bodyPost_ret (results_row_tmp rfl _ _ _ w.heap.size 65 _ _ rfl (setRow_heap _ _ _ _ _ _ HB5.out) ⟨_, Tryz.underlying65⟩ (by exact info_SInt)) rfl ?_
      exact ⟨⟨_, _, _, _, _, _, rfl, HE.out.1⟩, HE.out.2⟩
end Go.Proofs.YtoociokhldakbaaGreat
