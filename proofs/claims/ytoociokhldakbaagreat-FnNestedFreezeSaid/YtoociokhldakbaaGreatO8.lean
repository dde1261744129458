/- Numbers compared with floats. -/
import Derived.Test.YtoociokhldakbaaGreatO7
import Derived.Laws.Externs
import Derived.Laws.BitsAllLaws
import Derived.Deep.RegionHeld3
import Derived.OwnWalk
namespace Go.Proofs.YtoociokhldakbaaGreat
open Go.ChangeShapes Go.WideShapes Go.ChangeAt Go.RowKit
set_option linter.unusedVariables false
set_option maxRecDepth 100000 in
theorem CmpFloats_any (f g : Nat) (w : World) : Calls Tryz.prog 58 #[.float .f64 f, .float .f64 g] w fun e w' => (∃ r : Int, e = .returned (.int .i64 r)) ∧ w = w' := by
  have HN := Lib.hid (fun (x : Nat) W => IsNaN_any x W)
  go_enter Tryz.func58, Tryz.ntmps58
  go_wp2_with fail
  refine (HN.out f _).mono ?_
  rintro e w1 ⟨⟨r1, rfl⟩, rfl⟩
  cases r1
  · go_wp2_with fail
    · go_ret
      exact ⟨⟨_, rfl⟩, rfl⟩
    · refine (HN.out g _).mono ?_
      rintro e w1 ⟨⟨r2, rfl⟩, rfl⟩
      cases r2
      all_goals
        go_wp2_with fail
        all_goals
          go_ret
          exact ⟨⟨_, rfl⟩, rfl⟩
  · go_wp2_with fail
    refine (HN.out g _).mono ?_
    rintro e w1 ⟨⟨r2, rfl⟩, rfl⟩
    cases r2
    · go_wp2_with fail
      · go_ret
        exact ⟨⟨_, rfl⟩, rfl⟩
      · refine (HN.out g _).mono ?_
        rintro e w1 ⟨⟨r3, rfl⟩, rfl⟩
        cases r3
        all_goals
          go_wp2_with fail
          all_goals
            go_ret
            exact ⟨⟨_, rfl⟩, rfl⟩
    · go_wp2_with fail
      go_ret
      exact ⟨⟨_, rfl⟩, rfl⟩
set_option maxRecDepth 100000 in
set_option maxHeartbeats 1000000 in
theorem CmpFloat_any (bx : Bool) (Ax : Option Addr) (nx cx : Nat) (x : Int) (f : Nat) (hf : f < 18446744073709551616) (w : World) (hx : SI w (.agg #[.bool bx, .slice Ax nx cx]) x) :
    Calls Tryz.prog 56 #[.agg #[.bool bx, .slice Ax nx cx], .float .f64 f] w fun e w' => (∃ r : Int, e = .returned (.int .i64 r)) ∧ Kept w w' := by
  have HN := Lib.hid (fun (x : Nat) W => IsNaN_any x W)
  have HI1 := Lib.hid (fun (x : Nat) W => IsInf_any x 1 (.inl rfl) W)
  have HI2 := Lib.hid (fun (x : Nat) W => IsInf_any x (-1) (.inr rfl) W)
  have HW := Lib.hid (fun W => Whole_any f hf W)
  have hk : Kept w (w.alloc (.cells #[.bool bx, .slice Ax nx cx] 65)) := (Below.refl _ _).alloc (Nat.le_refl _) _
  have hb := Blk.new w 65 #[.bool bx, .slice Ax nx cx]
  have hsz := World.size_alloc w (.cells #[.bool bx, .slice Ax nx cx] 65)
  have HX := Lib.hid (hx.below hk)
  have HB := Lib.hid hb
  have HK := Lib.hid hk
  clear hf hx hk hb hsz
  go_enter Tryz.func56, Tryz.ntmps56
  go_wp2_with fail
  generalize w.alloc (.cells #[.bool bx, .slice Ax nx cx] 65) = W at *
  refine (HN.out f _).mono ?_
  rintro e w1 ⟨⟨r1, rfl⟩, rfl⟩
  have fin : ∃ (X : Unit), True := ⟨(), trivial⟩
  cases r1
  · go_wp2_with fail
    refine (HI1.out f _).mono ?_
    rintro e w1 ⟨⟨r2, rfl⟩, rfl⟩
    cases r2
    · go_wp2_with fail
      refine (HI2.out f _).mono ?_
      rintro e w1 ⟨⟨r3, rfl⟩, rfl⟩
      cases r3
      · go_wp2_with fail
        refine (HW.out W).mono ?_
        rintro e w2 ⟨⟨b2, A2, n2, c2, z2, r4, rfl, hv2⟩, hk2⟩
        have hk2a : Kept W (w2.alloc (.cells #[.bool b2, .slice A2 n2 c2] 65)) := hk2.alloc hk2.size _
        have HCM := Lib.hid (sCmp_any bx Ax nx cx x b2 A2 n2 c2 z2 (w2.alloc (.cells #[.bool b2, .slice A2 n2 c2] 65)) (HX.out.below hk2a) (hv2.toSI.below ((Below.refl _ w2).alloc (Nat.le_refl _) _)))
        have hbx := HB.out.below hk2a
        have d0 := hbx.cell 0
        have d1 := hbx.cell 1
        have HK2 := Lib.hid (HK.out.trans hk2a)
        generalize cmpI x z2 = cz at *
        clear hv2 hk2 hk2a hbx
        go_wp2_with fail
        refine HCM.out.mono ?_
        rintro e w3 ⟨rfl, hk3⟩
        have HK3 := Lib.hid (HK2.out.trans hk3)
        clear hk3
        by_cases hc : cz = 0
        · subst hc
          cases r4
          all_goals
            go_wp2_with fail
            all_goals
              go_ret
              exact ⟨⟨_, rfl⟩, HK3.out⟩
        · go_wp2_with fail
          go_ret
          exact ⟨⟨_, rfl⟩, HK3.out⟩
      · go_wp2_with fail
        go_ret
        exact ⟨⟨_, rfl⟩, HK.out⟩
    · go_wp2_with fail
      go_ret
      exact ⟨⟨_, rfl⟩, HK.out⟩
  · go_wp2_with fail
    go_ret
    exact ⟨⟨_, rfl⟩, HK.out⟩
end Go.Proofs.YtoociokhldakbaaGreat
