import Derived.Test.YtikjdibngkcpkaaR5
import Derived.Test.YtikjdibngkcpkaaIq
namespace Go.Proofs.Ytikjdibngkcpkaa
open Go.ChangeShapes Go.WideShapes Go.ChangeAt Go.RowKit
set_option linter.unusedVariables false
theorem shr_cap {X : Int} (s : Nat) (hX : X.natAbs < Num.Cap) : (X / ((2 ^ s : Nat) : Int)).natAbs < Num.Cap := by
  by_cases h : X < 0
  · have h1 := (shr_neg X (2 ^ s) (Nat.two_pow_pos s) h).2
    have h2 := Nat.div_le_self (X.natAbs - 1) (2 ^ s)
    rw [h1]
    generalize (X.natAbs - 1) / 2 ^ s = q at *
    omega
  · rw [shr_pos X (2 ^ s) h, Int.natAbs_natCast]
    exact Nat.lt_of_le_of_lt (Nat.div_le_self _ _) hX
set_option maxRecDepth 100000 in
set_option maxHeartbeats 2000000 in
theorem iRsh_any (x0 : Int) (p0 : Option Addr) (X : Int) (s : Nat) (hsl : s < 18446744073709551616) (hX : X.natAbs < Num.Cap) (w : World) (hv : StI w (.agg #[.int .i64 x0, .pointer p0]) X) :
    Calls Try.prog 44 #[.agg #[.int .i64 x0, .pointer p0], .int .u64 (s : Int)] w (RetStI w (X / ((2 ^ s : Nat) : Int))) := by
  have hp0 := hv.lt
  have hk0 : Kept w ((w.alloc (.cells #[.int .i64 x0, .pointer p0] 71)).alloc (.cells #[.int .i64 0, .pointer none] 71)) := by go_grown
  have b3 : Blk ((w.alloc (.cells #[.int .i64 x0, .pointer p0] 71)).alloc (.cells #[.int .i64 0, .pointer none] 71)) (w.heap.size + 1) 71 #[.int .i64 0, .pointer none] := by
    have := Blk.new (w.alloc (.cells #[.int .i64 x0, .pointer p0] 71)) 71 #[.int .i64 0, .pointer none]
    rwa [World.size_alloc] at this
  have hsz : ((w.alloc (.cells #[.int .i64 x0, .pointer p0] 71)).alloc (.cells #[.int .i64 0, .pointer none] 71)).heap.size = w.heap.size + 1 + 1 := by simp only [World.size_alloc]
  have b4 := Blk.new ((w.alloc (.cells #[.int .i64 x0, .pointer p0] 71)).alloc (.cells #[.int .i64 0, .pointer none] 71)) 100 #[.bool false, .slice none 0 0]
  rw [hsz] at b4
  have hk1 : Kept ((w.alloc (.cells #[.int .i64 x0, .pointer p0] 71)).alloc (.cells #[.int .i64 0, .pointer none] 71)) (((w.alloc (.cells #[.int .i64 x0, .pointer p0] 71)).alloc (.cells #[.int .i64 0, .pointer none] 71)).alloc (.cells #[.bool false, .slice none 0 0] 100)) := (Below.refl _ _).alloc (Nat.le_refl _) _
  have HBI := Lib.hid (bigInt_any w.heap.size x0 p0 X _ (hv.below (hk0.trans hk1)) (fun g e => hp0 g e))
  have HX := Lib.hid hX
  have HB3 := Lib.hid b3
  have HB4 := Lib.hid b4
  have HK0 := Lib.hid hk0
  have HK1 := Lib.hid hk1
  clear hv hp0 b3 b4 hk0 hk1 hX
  go_enter Try.func44, Try.ntmps44
  go_wp2_with fail
  generalize (((w.alloc (.cells #[.int .i64 x0, .pointer p0] 71)).alloc (.cells #[.int .i64 0, .pointer none] 71)).alloc (.cells #[.bool false, .slice none 0 0] 100)) = W2 at *
  generalize ((w.alloc (.cells #[.int .i64 x0, .pointer p0] 71)).alloc (.cells #[.int .i64 0, .pointer none] 71)) = W1 at *
  refine (HBI.out).mono ?_
  rintro e w3 ⟨gx, rfl, hbx, hd, hk3⟩
  have HR := Lib.hid (bigRsh_any (w.heap.size + 1 + 1) gx X s hsl HX.out w3 (HB4.out.below hk3) hbx)
  have HK3 : Hid (Kept W1 w3) := Lib.hid (HK1.out.trans hk3)
  clear hbx hd hk3
  go_wp2_with fail
  refine (HR.out).mono ?_
  rintro e w5 ⟨rfl, hb5, ho5⟩
  have hK5 : Kept W1 w5 := Below.grown HK3.out ho5 HK3.out.size (fun k hk => by injection hk with hk; subst hk; omega)
  have B5 := Lib.hid (HB3.out.below hK5)
  have HMB := Lib.hid (MakeBigInt_any _ _ (shr_cap s HX.out) w5 hb5.toBI)
  have HK5 := Lib.hid hK5
  clear hb5 ho5 hK5
  go_wp2_with fail
  refine (HMB.out).mono ?_
  rintro e w6 ⟨v6, rfl, hv6, hk6⟩
  have H := Lib.hid (B5.out.below hk6)
  have hz5 := HK5.out.size
  have hz6 := hk6.size
  have HV6 := Lib.hid (hv6.mono (B' := w.heap.size + 1 + 1) (by omega))
  obtain ⟨x6, p6, rfl⟩ := hv6.two
  have HK6 : Hid (Kept w w6) := Lib.hid ((HK0.out.trans HK5.out).trans hk6)
  clear hv6 hk6
  go_wp2_with (refine wpList_store_row rfl 71 (.tmp 4) (.tmp 10) rfl (w.heap.size + 1) _ rfl rfl 71 _ H.out info_stI rfl (by simp [Value.oneCell']) ?_)
  refine bodyPost_blk (cs := #[.int .i64 x6, .pointer p6]) rfl rfl (setRow_heap _ _ _ _ _ _ H.out) Try.underlying71 rfl (by exact info_stI) rfl ?_
  exact ⟨_, rfl, (HV6.out.setRow (by omega)).mono (by omega), below_setRow HK6.out (by omega) _⟩
set_option maxRecDepth 100000 in
set_option maxHeartbeats 2000000 in
theorem IntRsh_any (v : Value) (x : Int) (s : Nat) (hsl : s < 18446744073709551616) (hX : x.natAbs < Num.Cap) (w : World) (hv : VI w v x) :
    Calls Try.prog 23 #[v, .int .u64 (s : Int)] w (RetVI w (x / ((2 ^ s : Nat) : Int))) := by
  obtain ⟨A, c, l, rfl, hs, hl⟩ := hv
  have hk0 : Kept w ((w.alloc (.cells #[.int .i64 2, .bool (decide (x < 0)), .slice A l.length c, .int .u64 0, .string ⟨#[]⟩, .slice none 0 0] 28)).alloc (.cells #[.int .i64 0, .bool false, .slice none 0 0, .int .u64 0, .string ⟨#[]⟩, .slice none 0 0] 28)) := by go_grown
  have b1 : Blk ((w.alloc (.cells #[.int .i64 2, .bool (decide (x < 0)), .slice A l.length c, .int .u64 0, .string ⟨#[]⟩, .slice none 0 0] 28)).alloc (.cells #[.int .i64 0, .bool false, .slice none 0 0, .int .u64 0, .string ⟨#[]⟩, .slice none 0 0] 28)) w.heap.size 28 #[.int .i64 2, .bool (decide (x < 0)), .slice A l.length c, .int .u64 0, .string ⟨#[]⟩, .slice none 0 0] :=
    (Blk.new w _ _).below ((Below.refl _ _).alloc (Nat.le_refl _) _)
  have b2 : Blk ((w.alloc (.cells #[.int .i64 2, .bool (decide (x < 0)), .slice A l.length c, .int .u64 0, .string ⟨#[]⟩, .slice none 0 0] 28)).alloc (.cells #[.int .i64 0, .bool false, .slice none 0 0, .int .u64 0, .string ⟨#[]⟩, .slice none 0 0] 28)) (w.heap.size + 1) 28 #[.int .i64 0, .bool false, .slice none 0 0, .int .u64 0, .string ⟨#[]⟩, .slice none 0 0] := by
    have := Blk.new (w.alloc (.cells #[.int .i64 2, .bool (decide (x < 0)), .slice A l.length c, .int .u64 0, .string ⟨#[]⟩, .slice none 0 0] 28)) 28 #[.int .i64 0, .bool false, .slice none 0 0, .int .u64 0, .string ⟨#[]⟩, .slice none 0 0]
    rwa [World.size_alloc] at this
  have hV : VI ((w.alloc (.cells #[.int .i64 2, .bool (decide (x < 0)), .slice A l.length c, .int .u64 0, .string ⟨#[]⟩, .slice none 0 0] 28)).alloc (.cells #[.int .i64 0, .bool false, .slice none 0 0, .int .u64 0, .string ⟨#[]⟩, .slice none 0 0] 28)) (.agg #[.int .i64 2, .bool (decide (x < 0)), .slice A l.length c, .int .u64 0, .string ⟨#[]⟩, .slice none 0 0]) x := ⟨A, c, l, rfl, hs.below hk0, hl⟩
  have HW := Lib.hid (whole_any _ x hX _ hV)
  have HX := Lib.hid hX
  have HB1 := Lib.hid b1
  have HB2 := Lib.hid b2
  have HK0 := Lib.hid hk0
  have hsz := hk0.size
  have l2 := b2.lt
  clear hs hl hV b1 b2 hk0 hX
  go_enter Try.func23, Try.ntmps23
  go_wp2_with (refine wpList_load_row rfl 28 (.tmp 2) rfl w.heap.size rfl _ _ (0, 0) _ HB1.out Try.underlying28 rfl (by exact info_Val) ?_)
  generalize ((w.alloc (.cells #[.int .i64 2, .bool (decide (x < 0)), .slice A l.length c, .int .u64 0, .string ⟨#[]⟩, .slice none 0 0] 28)).alloc (.cells #[.int .i64 0, .bool false, .slice none 0 0, .int .u64 0, .string ⟨#[]⟩, .slice none 0 0] 28)) = W at *
  refine (HW.out).mono ?_
  rintro e w1 ⟨v1, rfl, hs1, hk1⟩
  have HS1 := Lib.hid hs1.toStI
  obtain ⟨x0, p0, rfl⟩ := hs1.two
  have HR := Lib.hid (iRsh_any x0 p0 x s hsl HX.out w1 HS1.out)
  have HK1 := Lib.hid hk1
  clear hs1 hk1
  go_wp2_with fail
  refine (HR.out).mono ?_
  rintro e w2 ⟨v2, rfl, hs2, hk2⟩
  have HN := Lib.hid (number_any _ _ (shr_cap s HX.out) w2 hs2.toStI)
  have HK2 := Lib.hid hk2
  clear hs2 hk2
  go_wp2_with fail
  refine (HN.out).mono ?_
  rintro e w3 ⟨v3, rfl, hs3, hk3⟩
  have hkk : Kept W w3 := (HK1.out.trans HK2.out).trans hk3
  have H := Lib.hid (HB2.out.below hkk)
  have hz1 := HK1.out.size
  have hz2 := HK2.out.size
  have HV3 := Lib.hid (hs3.mono (B' := w.heap.size + 1 + 1) (by omega))
  obtain ⟨A4, c4, l4, rfl, _⟩ := hs3
  have HK3 : Hid (Kept w w3) := Lib.hid (HK0.out.trans hkk)
  clear hkk hk3
  go_wp2_with (refine wpList_store_row rfl 28 (.tmp 4) (.tmp 9) rfl (w.heap.size + 1) _ rfl rfl 28 _ H.out info_Val rfl (by simp [Value.oneCell']) ?_)
  refine bodyPost_blk (cs := #[.int .i64 2, .bool (decide (x / ((2 ^ s : Nat) : Int) < 0)), .slice A4 l4.length c4, .int .u64 0, .string ⟨#[]⟩, .slice none 0 0]) rfl rfl (setRow_heap _ _ _ _ _ _ H.out) Try.underlying28 rfl (by exact info_Val) rfl ?_
  exact ⟨_, rfl, (HV3.out.setRow (by omega) _).mono (by omega), below_setRow HK3.out (by omega) _⟩
end Go.Proofs.Ytikjdibngkcpkaa
